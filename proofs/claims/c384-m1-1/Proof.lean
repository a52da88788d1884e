import JvmDerived
import JvmDerived.Pilot.@@N@@Statement
import JvmDerived.Pilot.@@N@@Code
set_option linter.unusedVariables false
set_option linter.unusedSimpArgs false
@@BLOCK:NumsL.lean.txt@@
namespace Jvm.RoadKit
open Sem ClassFile Op Lib Jvm.Stand Jvm.Free Jvm.LawKit
section OwnRuns
variable {p : Program} {l : Launch} {e : Env} {R : Room} {s : State} {m : MethodId} {args : Array Value} {below : List Frame} {meth : Method} {c : Code} {T : State} {locs : List Loc} {cells slots : Nat}
/-- from U the invocation comes to its end, and there Q holds -/
def Runs (p : Program) (e : Env) (below : List Frame) (Q : Outcome → State → Prop) (U : State) : Prop :=
  ∃ s₂ o, Steps p.tables e below U s₂ ∧ s₂.status = .running ∧ Ended s₂ below o ∧ Q o s₂
def QE (s : State) (Q : Option Value → Heap → List Loc → Prop) (C S : Nat) : Outcome → State → Prop :=
  fun o U' => ∃ v L, o = .returned v ∧ Q v U'.heap L ∧ FrameEnd s o U' L C S
theorem Runs.by {Q : Outcome → State → Prop} {U U' : State} (h : ∀ t, Steps p.tables e below U' t → Steps p.tables e below U t) (k : Runs p e below Q U') : Runs p e below Q U := by
  obtain ⟨s2, o, h1, h2⟩ := k
  exact ⟨s2, o, h _ h1, h2⟩
theorem Runs.ret {Q : Option Value → Heap → List Loc → Prop} {C S : Nat} {t : FieldType} {w : Value} {i : Instr} {pc : Nat} {Ls : Array Slot} {rest : List Value}
    (X : Stand p l e R s m args below meth c T locs cells slots) (hx : p.tables.exec = Jvm.exec) (hret : meth.sig.returnType = some t) (hlk : meth.locks = false)
    (hi : (i = .ireturn ∧ (t = .int ∨ t = .boolean ∨ t = .byte ∨ t = .char ∨ t = .short) ∧ ∃ z, w = .int z) ∨ (i = .lreturn ∧ t = .long ∧ ∃ z, w = .long z) ∨ (i = .dreturn ∧ t = .double ∧ ∃ z, w = .double z) ∨ (i = .freturn ∧ t = .float ∧ ∃ z, w = .float z) ∨ (i = .areturn ∧ t.isReference = true ∧ w.isRef = true))
    (hn : narrow t w = w) (hd : decode c.code pc = .ok (i, 1)) (hC : cells ≤ C) (hS : slots ≤ S) (hQ : Q (some w) T.heap locs) : Runs p e below (QE s Q C S) (T.setTop (mkF m pc Ls (w :: rest))) := by
  obtain ⟨fs, hr, hrun, hended, hW, hsame⟩ := X.leave (v := some w) (fun h => by rw [hret] at h; cases h) hlk
  exact ⟨_, _, retOut X hx hret hn hi hd hr, hrun, hended, _, _, rfl, hQ, ⟨_, rfl⟩, hW, hsame.mono hC hS⟩
theorem Runs.retV {Q : Option Value → Heap → List Loc → Prop} {C S : Nat} {pc : Nat} {Ls : Array Slot}
    (X : Stand p l e R s m args below meth c T locs cells slots) (hx : p.tables.exec = Jvm.exec) (hret : meth.sig.returnType = none) (hlk : meth.locks = false)
    (hd : decode c.code pc = .ok (.return_, 1)) (hC : cells ≤ C) (hS : slots ≤ S) (hQ : Q none T.heap locs) : Runs p e below (QE s Q C S) (T.setTop (mkF m pc Ls [])) := by
  obtain ⟨fs, hr, hrun, hended, hW, hsame⟩ := X.leave (v := none) (fun _ => rfl) hlk
  exact ⟨_, _, X.returnOut hx hret hd hr, hrun, hended, _, _, rfl, hQ, ⟨_, rfl⟩, hW, hsame.mono hC hS⟩
theorem own_narrow_b (x : Int32) (h : x = 0 ∨ x = 1) : narrow .boolean (.int x) = .int x := by rcases h with rfl | rfl <;> rfl
end OwnRuns
section OwnWide
variable {p : Program} {l : Launch} {e : Env} {R : Room} {s Z : State} {m : MethodId} {args : Array Value} {below : List Frame} {meth : Method} {c : Code} {T : State} {locs : List Loc} {cells slots : Nat} {vm1 : Vm} {EL : List (String × Nat)} {a0 : Array Value} {h : Heap}
/-- as QE, for a body that may load String constants -/
def QEW (Z : State) (EL : List (String × Nat)) (s : State) (Q : Option Value → Heap → List Loc → Prop) (C S : Nat) : Outcome → State → Prop :=
  fun o U' => ∃ v L, o = .returned v ∧ Q v U'.heap L ∧ CHr Z EL s.vm s.heap U'.vm U'.heap ∧ ReturnedEndW s o U' L C S
theorem own_monoW {t : State} {o : Outcome} {L : List Loc} {k n k' n' : Nat} (h : ReturnedEndW s o t L k n) (hk : k ≤ k') (hn : n ≤ n') : ReturnedEndW s o t L k' n' := ⟨h.1, h.2.1, h.2.2.1, h.2.2.2.mono hk hn⟩
theorem Runs.retW {Q : Option Value → Heap → List Loc → Prop} {C S n : Nat} {t : FieldType} {w : Value} {i : Instr} {pc : Nat} {Ls : Array Slot} {rest : List Value}
    (X : Stand p l e R (s.setVm vm1) m args below meth c T locs cells slots) (hx : p.tables.exec = Jvm.exec) (hret : meth.sig.returnType = some t) (hlk : meth.locks = false) (eT : T.heap = h) (hS : s.Since vm1 n) (hk : n ≤ h.size) (hZ : Z.Warmed39 vm1) (hEL : EW Z a0 EL) (hC : CHr Z EL s.vm s.heap vm1 h)
    (hi : (i = .ireturn ∧ (t = .int ∨ t = .boolean ∨ t = .byte ∨ t = .char ∨ t = .short) ∧ ∃ z, w = .int z) ∨ (i = .lreturn ∧ t = .long ∧ ∃ z, w = .long z) ∨ (i = .dreturn ∧ t = .double ∧ ∃ z, w = .double z) ∨ (i = .freturn ∧ t = .float ∧ ∃ z, w = .float z) ∨ (i = .areturn ∧ t.isReference = true ∧ w.isRef = true))
    (hn : narrow t w = w) (hd : decode c.code pc = .ok (i, 1)) (hCc : cells ≤ C) (hSs : slots ≤ S) (hQ : Q (some w) h locs) : Runs p e below (QEW Z EL s Q C S) (T.setTop (mkF m pc Ls (w :: rest))) := by
  subst eT
  obtain ⟨fs, hr, hrun, hended, hW⟩ := X.leaveW hS hk (v := some w) (fun h => by rw [hret] at h; cases h) hlk
  have hA := hC.trans (CHv.at X hZ hEL hC.1)
  exact ⟨_, _, retOut X hx hret hn hi hd hr, hrun, hended, _, _, rfl, hQ, hA, own_monoW hW hCc hSs⟩
theorem Runs.retVW {Q : Option Value → Heap → List Loc → Prop} {C S n : Nat} {pc : Nat} {Ls : Array Slot}
    (X : Stand p l e R (s.setVm vm1) m args below meth c T locs cells slots) (hx : p.tables.exec = Jvm.exec) (hret : meth.sig.returnType = none) (hlk : meth.locks = false) (eT : T.heap = h) (hS : s.Since vm1 n) (hk : n ≤ h.size) (hZ : Z.Warmed39 vm1) (hEL : EW Z a0 EL) (hC : CHr Z EL s.vm s.heap vm1 h)
    (hd : decode c.code pc = .ok (.return_, 1)) (hCc : cells ≤ C) (hSs : slots ≤ S) (hQ : Q none h locs) : Runs p e below (QEW Z EL s Q C S) (T.setTop (mkF m pc Ls [])) := by
  subst eT
  obtain ⟨fs, hr, hrun, hended, hW⟩ := X.leaveW hS hk (v := none) (fun _ => rfl) hlk
  have hA := hC.trans (CHv.at X hZ hEL hC.1)
  exact ⟨_, _, X.returnOut hx hret hd hr, hrun, hended, _, _, rfl, hQ, hA, own_monoW hW hCc hSs⟩
/-- a callee that may load String constants and writes the object at x, of which is known that no constant books it -/
theorem own_backSH {y : MethodName} {bytes : ByteArray} {maxL : Nat} {ret : Option FieldType} {rm : Room} {len W : Nat} {as' : Array Value} {Q : Option Value → Heap → List Loc → Prop} {vm0 : Vm} {x : Addr}
    (hM : MetFree l y (head1 [Cond.code y bytes maxL ret] rm) (fun a U => a = as' ∧ Z.Warmed39 U.vm ∧ U.heap = h ∧ CHv Z EL U.vm h ∧ Safe Z EL U.vm h x) (fun _ _ _ _ _ => True) (fun _ U o U' => ∃ v L, o = .returned v ∧ Q v U'.heap L ∧ CHr Z EL U.vm U.heap U'.vm U'.heap ∧ ReturnedEndW U o U' L rm.cells rm.slots))
    (hZ : Z.Warmed39 vm0) (wc : (Cond.code y bytes maxL ret).before a0 Z = true) (wz : (Cond.initialized y.cls).before a0 Z = true) (hf : rm.frames + 1 ≤ R.frames) (hl : W + (maxL + 11) + rm.locals ≤ R.locals) (hEL : EW Z a0 EL) (H : CHv Z EL vm0 h) (hxl : x < h.size) (Sx : Safe Z EL vm0 h x) :
    BackS l R p e below (s.setVm vm0) args y len W (fun A a => a = as' ∧ A.U.heap = h ∧ A.cells + rm.cells ≤ R.cells ∧ A.slots + rm.slots ≤ R.slots)
      (fun A _ v B => ∃ L, Q v B.U.heap L ∧ B.locs = A.locs ++ L ∧ B.cells = A.cells + rm.cells ∧ B.slots = A.slots + rm.slots ∧ CHr Z EL vm0 h B.U.vm B.U.heap) := by
  refine BackS.of_freeW (bytes := bytes) (maxL := maxL) (ret := ret) (E := fun _ first o t L k n => k = rm.cells ∧ n = rm.slots ∧ (∃ v, o = .returned v ∧ Q v t.heap L) ∧ CHr Z EL first.vm first.heap t.vm t.heap) hM hf hl ?_ ?_ (fun _ _ _ _ _ _ _ _ _ => trivial) ?_ ?_
  · intro m meth c A a Y hp
    have hU : Z.Warmed39 A.U.vm := wtrans (s := s.setVm vm0) hZ Y.warmed
    exact ⟨by show (Cond.and _ .tt).before a A.U = true; rw [Cond.before_and, mv hU wc]; rfl, mv hU wc, mv hU wz, hp.2.2.1, hp.2.2.2⟩
  · intro m meth c A a g mk Y hp
    have hr := CHv.at Y hZ hEL H
    exact ⟨hp.1, wtrans (s := s.setVm vm0) hZ Y.warmed, hp.2.1, hr.1, hr.safe hxl Sx⟩
  · rintro _ _ _ _ ⟨v, L, h1, h2, h3, h4⟩
    exact ⟨L, _, _, h4, rfl, rfl, ⟨v, h1, h2⟩, h3⟩
  · rintro m meth c A a g mk v t L k n Y hp _ _ ⟨e1, e2, ⟨v', e3, e4⟩, e5⟩
    cases e3; subst e1 e2
    refine ⟨L, e4, rfl, rfl, rfl, (CHv.at Y hZ hEL H).trans ?_⟩
    rw [← hp.2.1]; exact e5
theorem own_safe_arv {x : Addr} {k : ClassId} {ty : FieldType} {z : Int32} {vs : List Value} {d : Value} {vm : Vm} (hal : Z.vm.Alike vm) (V : Arv Z h x k ty z vs d) (ht : ty ≠ .byte) : Safe Z EL vm h x := by
  obtain ⟨c, A, -⟩ := V; exact Safe.arr hal A ht
/-- as QEW, where Q speaks of the machine's tables too -/
def QEX (Z : State) (EL : List (String × Nat)) (s : State) (Q : Option Value → Heap → List Loc → Vm → Prop) (C S : Nat) : Outcome → State → Prop :=
  fun o U' => ∃ v L, o = .returned v ∧ Q v U'.heap L U'.vm ∧ CHr Z EL s.vm s.heap U'.vm U'.heap ∧ ReturnedEndW s o U' L C S
theorem Runs.retX {Q : Option Value → Heap → List Loc → Vm → Prop} {C S n : Nat} {t : FieldType} {w : Value} {i : Instr} {pc : Nat} {Ls : Array Slot} {rest : List Value}
    (X : Stand p l e R (s.setVm vm1) m args below meth c T locs cells slots) (hx : p.tables.exec = Jvm.exec) (hret : meth.sig.returnType = some t) (hlk : meth.locks = false) (eT : T.heap = h) (hS : s.Since vm1 n) (hk : n ≤ h.size) (hZ : Z.Warmed39 vm1) (hEL : EW Z a0 EL) (hC : CHr Z EL s.vm s.heap vm1 h)
    (hi : (i = .ireturn ∧ (t = .int ∨ t = .boolean ∨ t = .byte ∨ t = .char ∨ t = .short) ∧ ∃ z, w = .int z) ∨ (i = .lreturn ∧ t = .long ∧ ∃ z, w = .long z) ∨ (i = .dreturn ∧ t = .double ∧ ∃ z, w = .double z) ∨ (i = .freturn ∧ t = .float ∧ ∃ z, w = .float z) ∨ (i = .areturn ∧ t.isReference = true ∧ w.isRef = true))
    (hn : narrow t w = w) (hd : decode c.code pc = .ok (i, 1)) (hCc : cells ≤ C) (hSs : slots ≤ S) (hQ : Q (some w) h locs T.vm) : Runs p e below (QEX Z EL s Q C S) (T.setTop (mkF m pc Ls (w :: rest))) := by
  subst eT
  obtain ⟨fs, hr, hrun, hended, hW⟩ := X.leaveW hS hk (v := some w) (fun h => by rw [hret] at h; cases h) hlk
  have hA := hC.trans (CHv.at X hZ hEL hC.1)
  exact ⟨_, _, retOut X hx hret hn hi hd hr, hrun, hended, _, _, rfl, hQ, hA, own_monoW hW hCc hSs⟩
/-- a callee that may load String constants, told of the tables (PX) and of one address x that no constant books, and that tells of the tables -/
theorem own_backX {y : MethodName} {bytes : ByteArray} {maxL : Nat} {ret : Option FieldType} {rm : Room} {len W : Nat} {as' : Array Value} {Q : Option Value → Heap → List Loc → Vm → Prop} {vm0 : Vm} {x : Addr} {PX : Vm → Prop}
    (hM : MetFree l y (head1 [Cond.code y bytes maxL ret] rm) (fun a U => a = as' ∧ Z.Warmed39 U.vm ∧ U.heap = h ∧ CHv Z EL U.vm h ∧ Safe Z EL U.vm h x ∧ PX U.vm) (fun _ _ _ _ _ => True) (fun _ U o U' => ∃ v L, o = .returned v ∧ Q v U'.heap L U'.vm ∧ CHr Z EL U.vm U.heap U'.vm U'.heap ∧ ReturnedEndW U o U' L rm.cells rm.slots))
    (hZ : Z.Warmed39 vm0) (wc : (Cond.code y bytes maxL ret).before a0 Z = true) (wz : (Cond.initialized y.cls).before a0 Z = true) (hf : rm.frames + 1 ≤ R.frames) (hl : W + (maxL + 11) + rm.locals ≤ R.locals) (hEL : EW Z a0 EL) (H : CHv Z EL vm0 h) (hxl : x < h.size) (Sx : Safe Z EL vm0 h x) (hPX : ∀ vm', (s.setVm vm0).Warmed39 vm' → PX vm') :
    BackS l R p e below (s.setVm vm0) args y len W (fun A a => a = as' ∧ A.U.heap = h ∧ A.cells + rm.cells ≤ R.cells ∧ A.slots + rm.slots ≤ R.slots)
      (fun A _ v B => ∃ L, Q v B.U.heap L B.U.vm ∧ B.locs = A.locs ++ L ∧ B.cells = A.cells + rm.cells ∧ B.slots = A.slots + rm.slots ∧ CHr Z EL vm0 h B.U.vm B.U.heap) := by
  refine BackS.of_freeW (bytes := bytes) (maxL := maxL) (ret := ret) (E := fun _ first o t L k n => k = rm.cells ∧ n = rm.slots ∧ (∃ v, o = .returned v ∧ Q v t.heap L t.vm) ∧ CHr Z EL first.vm first.heap t.vm t.heap) hM hf hl ?_ ?_ (fun _ _ _ _ _ _ _ _ _ => trivial) ?_ ?_
  · intro m meth c A a Y hp
    have hU : Z.Warmed39 A.U.vm := wtrans (s := s.setVm vm0) hZ Y.warmed
    exact ⟨by show (Cond.and _ .tt).before a A.U = true; rw [Cond.before_and, mv hU wc]; rfl, mv hU wc, mv hU wz, hp.2.2.1, hp.2.2.2⟩
  · intro m meth c A a g mk Y hp
    have hr := CHv.at Y hZ hEL H
    exact ⟨hp.1, wtrans (s := s.setVm vm0) hZ Y.warmed, hp.2.1, hr.1, hr.safe hxl Sx, hPX _ Y.warmed.wide⟩
  · rintro _ _ _ _ ⟨v, L, h1, h2, h3, h4⟩
    exact ⟨L, _, _, h4, rfl, rfl, ⟨v, h1, h2⟩, h3⟩
  · rintro m meth c A a g mk v t L k n Y hp _ _ ⟨e1, e2, ⟨v', e3, e4⟩, e5⟩
    cases e3; subst e1 e2
    refine ⟨L, e4, rfl, rfl, rfl, (CHv.at Y hZ hEL H).trans ?_⟩
    rw [← hp.2.1]; exact e5
theorem own_lstay {vm0 vm1 : Vm} {own : String} {ix : Nat} {a : Addr} (L : Lit (Z.setVm vm0) own ix a) (hW : (s.setVm vm0).Warmed39 vm1) : Lit (Z.setVm vm1) own ix a := Lit.stays (s := s) L hW
/-- a String constant that is booked, its text, and one address that it isn't -/
def own_LS (Z : State) (vm : Vm) (h : Heap) (ln : Addr) (own : String) (ix : Nat) (z : Int32) (vs : List Value) : Prop :=
  ∃ (a b : Addr) (k : ClassId), Lit (Z.setVm vm) own ix a ∧ Exa Z h a "java/lang/String" ∧ Fld Z h a "java/lang/String" "coder" "B" (.int (0 : Int32)) ∧ Fld Z h a "java/lang/String" "value" "[B" (.ref b) ∧ Arv Z h b k .byte z vs (.int 0) ∧ ln ≠ a ∧ ln ≠ b
theorem own_LS.step {vm0 vm1 : Vm} {h' : Heap} {ln : Addr} {own : String} {ix : Nat} {z : Int32} {vs : List Value} (F : own_LS Z vm0 h ln own ix z vs) (hW : (s.setVm vm0).Warmed39 vm1) (K : Keep h h' []) : own_LS Z vm1 h' ln own ix z vs := by
  obtain ⟨a, b, k, L, f1, f2, f3, f4, n1, n2⟩ := F
  exact ⟨a, b, k, own_lstay L hW, f1.keep K, f2.keep K nin0, f3.keep K nin0, f4.keep K nin0, n1, n2⟩
theorem own_LS.wr {vm0 : Vm} {h' : Heap} {ln : Addr} {own : String} {ix : Nat} {z : Int32} {vs : List Value} {sl : Nat} {v : Value} (F : own_LS Z vm0 h ln own ix z vs) (W : Wr h h' ln sl v) : own_LS Z vm0 h' ln own ix z vs := by
  obtain ⟨a, b, k, L, f1, f2, f3, f4, n1, n2⟩ := F
  exact ⟨a, b, k, L, f1.wr W, f2.other W (Or.inl (Ne.symm n1)), f3.other W (Or.inl (Ne.symm n1)), f4.other W (Ne.symm n2), n1, n2⟩
end OwnWide
theorem own_selp {Z s : State} {a0 args : Array Value} {y : MethodName} {n : Nat} (hZ : Z.Warmed39 s.vm) (wi : (Cond.instantiable y.cls n).before a0 Z = true) (wp : (Cond.privateMethod y).before a0 Z = true) (wm : (Cond.instanceMethod y).before a0 Z = true) (hy : y.cls ≠ "java/lang/invoke/MethodHandle" ∧ y.cls ≠ "java/lang/invoke/VarHandle") : (Cond.selects y.cls y y).before args s = true := by
  obtain ⟨c, k, h1, h2, h3, h4, -⟩ := Cond.instantiable_spec (mvT (args := args) hZ wi)
  exact selects_self_of_private h1 h2 (by simp only [Bool.or_eq_false_iff] at h4; exact h4.1) (Cond.privateMethod_at (mvP hZ wp (args := args))) (mvT hZ wm) hy
theorem own_nneg {z : Int32} (h : 0 ≤ z.toInt) : ¬ z < 0 := by
  have e0 : (0 : Int32).toInt = 0 := by decide
  rw [Int32.lt_iff_toInt_lt]; omega
theorem own_cap {z : Int32} {n : Nat} (h : z.toInt ≤ n) : z.toNatClampNeg ≤ n := by show Int.toNat _ ≤ _; omega
section OwnArf
variable {Z : State} {h h' : Heap} {a b : Addr} {k : ClassId} {ty : FieldType} {z j : Int32} {f g : Nat → Value} {v w : Value} {sl : Nat} {ws : List Addr} {c : Cell}
def own_up {α : Type} (f : Nat → α) (n : Nat) (x : α) : Nat → α := fun i => if i = n then x else f i
theorem own_up_same {α : Type} (f : Nat → α) (n : Nat) (x : α) : own_up f n x n = x := by simp [own_up]
theorem own_up_ne {α : Type} (f : Nat → α) {n i : Nat} (x : α) (q : i ≠ n) : own_up f n x i = f i := by simp [own_up, q]
theorem own_up_map {α β : Type} (g : α → β) (w : Nat → α) (n : Nat) (x : α) (j : Nat) : own_up (fun j => g (w j)) n (g x) j = g (own_up w n x j) := by unfold own_up; split <;> rfl
/-- an array: its class, its length, what stands at each place -/
def Arf (Z : State) (h : Heap) (a : Addr) (k : ClassId) (ty : FieldType) (z : Int32) (f : Nat → Value) : Prop :=
  ∃ c : Cell, Arr Z h a c ty ∧ c.cls = k ∧ c.slots.size = z.toNatClampNeg ∧ ¬ z < 0 ∧ ∀ i, i < z.toNatClampNeg → c.slots[i]? = some (f i)
theorem Arf.lt (F : Arf Z h a k ty z f) : a < h.size := by obtain ⟨c, A, -⟩ := F; exact A.lt
theorem Arf.ext (F : Arf Z h a k ty z f) (E : Ext h h') : Arf Z h' a k ty z f := by obtain ⟨c, A, r⟩ := F; exact ⟨c, A.ext E, r⟩
theorem Arf.other (F : Arf Z h b k ty z f) (W : Wr h h' a sl v) (q : b ≠ a) : Arf Z h' b k ty z f := by obtain ⟨c, A, r⟩ := F; exact ⟨c, A.other W q, r⟩
theorem Arf.keep (F : Arf Z h a k ty z f) (K : Keep h h' ws) (q : a ∉ ws) : Arf Z h' a k ty z f := by obtain ⟨c, A, r⟩ := F; exact ⟨c, ⟨K.2.1 a c A.1 q, A.2⟩, r⟩
theorem Arf.cast (F : Arf Z h a k ty z f) (e : ∀ i, i < z.toNatClampNeg → f i = g i) : Arf Z h a k ty z g := by obtain ⟨c, A, r1, r2, r3, H⟩ := F; exact ⟨c, A, r1, r2, r3, fun i hi => by rw [H i hi, e i hi]⟩
theorem Arf.new (A : Arr Z h a (newA k ty z) ty) (q : ¬ z < 0) : Arf Z h a k ty z (fun _ => defaultValue ty) := ⟨_, A, rfl, sz_new _ _ _, q, fun i hi => by simp [newA, hi]⟩
theorem Arf.set {n : Nat} (A : Arr Z h a c ty) (q1 : c.cls = k) (S : c.slots.size = z.toNatClampNeg) (q3 : ¬ z < 0) (H : ∀ i, i < z.toNatClampNeg → c.slots[i]? = some (f i)) (W : Wr h h' a j.toNatClampNeg v) (hj : j.toNatClampNeg = n) : Arf Z h' a k ty z (own_up f n v) := by
  refine ⟨_, A.same W, q1, by rw [sz_set]; exact S, q3, fun i hi => ?_⟩
  rw [hj]
  by_cases u : i = n
  · subst u; simp [Cell.setSlot, own_up, S, hi]
  · have := H i hi; simp only [Cell.setSlot, own_up, u, if_false] at this ⊢
    rw [Array.getElem?_setIfInBounds_ne (Ne.symm u)]; exact this
theorem own_ix {j z : Int32} {n : Nat} (hj : j.toInt = n) (hz : j.toInt < z.toInt) : (¬ j < 0 ∧ j < z) ∧ j.toNatClampNeg = n ∧ n < z.toNatClampNeg := by
  have e0 : (0 : Int32).toInt = 0 := by decide
  refine ⟨⟨by rw [Int32.lt_iff_toInt_lt]; omega, by rw [Int32.lt_iff_toInt_lt]; exact hz⟩, ?_, ?_⟩
  · show Int.toNat _ = _; omega
  · show _ < Int.toNat _; omega
theorem own_cl {z : Int32} {j : Nat} (h : j < z.toNatClampNeg) : (j : Int) < z.toInt := by
  have e : z.toNatClampNeg = z.toInt.toNat := rfl
  omega
end OwnArf
end Jvm.RoadKit
namespace Jvm.Pilot.@@N@@
open Jvm Jvm.ClassFile Sem Op Lib Jvm.Free Jvm.Stand Jvm.LawKit Jvm.RoadKit Bundle Jvm.Pilot.@@N@@.Jvm.D
def own_lc (b : Int32) : Int32 := if b < 65 then b else if (90 : Int32) < b then b else (b + 32).toInt8.toInt32
def own_ws (c : Int32) : Int32 := if c = 32 then 1 else if c = 9 then 1 else 0
def own_sf (k o : Int32) : Int32 := if (k &&& 3) = 0 then 32 else if (k &&& 3) = 1 then 9 else if (k &&& 3) = 2 then 58 else o
def own_mn (a b : Int32) : Int32 := if b < a then b else a
def own_mnJ (a b : Int64) : Int64 := if (0 : Int32) < lcmpW a b then b else a
theorem own_b8 (x : Int32) : x.toInt8.toInt32.toInt8.toInt32 = x.toInt8.toInt32 := by simp
theorem own_nb {x : Int32} (h8 : x.toInt8.toInt32 = x) : narrow .byte (.int x) = .int x := by show Value.int _ = _; rw [h8]
def own_tj (wl : Nat → Int32) (f : Nat) (fr en c : Int32) (j : Nat) (rest : Int32) : Int32 := if fr + c < en then (if wl (f + j) = 32 then rest else if wl (f + j) = 9 then rest else if wl (f + j) = 58 then 1 else 0) else 0
def own_t3 (wl : Nat → Int32) (f : Nat) (fr en : Int32) : Int32 := own_tj wl f fr en 14 14 0
def own_t2 (wl : Nat → Int32) (f : Nat) (fr en : Int32) : Int32 := own_tj wl f fr en 13 13 (own_t3 wl f fr en)
def own_t1 (wl : Nat → Int32) (f : Nat) (fr en : Int32) : Int32 := own_tj wl f fr en 12 12 (own_t2 wl f fr en)
def own_t0 (wl : Nat → Int32) (f : Nat) (fr en : Int32) : Int32 := own_tj wl f fr en 11 11 (own_t1 wl f fr en)
def own_bg (wl : Nat → Int32) (f : Nat) (fr en : Int32) : Int32 := if (11 : Int32) < en - fr then
  (if own_lc (wl (f + 0)) = 120 then (if own_lc (wl (f + 1)) = 45 then (if own_lc (wl (f + 2)) = 119 then (if own_lc (wl (f + 3)) = 111 then (if own_lc (wl (f + 4)) = 114 then (if own_lc (wl (f + 5)) = 100 then (if own_lc (wl (f + 6)) = 45 then (if own_lc (wl (f + 7)) = 111 then (if own_lc (wl (f + 8)) = 100 then (if own_lc (wl (f + 9)) = 100 then (if own_lc (wl (f + 10)) = 115 then own_t0 wl f fr en else 0) else 0) else 0) else 0) else 0) else 0) else 0) else 0) else 0) else 0) else 0) else 0
section
variable {wl : Nat → Int32} {f j : Nat} {fr en c rest : Int32}
theorem own_tjw (a : fr + c < en) (q : wl (f + j) = 32 ∨ wl (f + j) = 9) : own_tj wl f fr en c j rest = rest := by
  rw [own_tj, if_pos a]; rcases q with q | q
  · rw [if_pos q]
  · rw [q]; simp
theorem own_tjn (a : ¬ fr + c < en) : own_tj wl f fr en c j rest = 0 := by rw [own_tj, if_neg a]
theorem own_tj1 (a : fr + c < en) (q1 : ¬ wl (f + j) = 32) (q2 : ¬ wl (f + j) = 9) (q3 : wl (f + j) = 58) : own_tj wl f fr en c j rest = 1 := by rw [own_tj, if_pos a, if_neg q1, if_neg q2, if_pos q3]
theorem own_tj0 (a : fr + c < en) (q1 : ¬ wl (f + j) = 32) (q2 : ¬ wl (f + j) = 9) (q3 : ¬ wl (f + j) = 58) : own_tj wl f fr en c j rest = 0 := by rw [own_tj, if_pos a, if_neg q1, if_neg q2, if_neg q3]
end
theorem own_ad {p c : Int32} {f n : Nat} (hf : p.toInt = (f : Int)) (h3 : f ≤ 3) (hc : c.toInt = (n : Int)) (hn : n ≤ 1000) : (p + c).toInt = ((f + n : Nat) : Int) := by
  rw [Int32.toInt_add, hf, hc, Int.bmod_eq_of_le (by omega) (by omega)]; omega
theorem own_ad24 {p c : Int32} {f n : Nat} (hf : p.toInt = (f : Int)) (h3 : f ≤ 3) (hc : c.toInt = (n : Int)) (hn : n ≤ 20) : (p + c).toInt < (24 : Int32).toInt := by
  rw [own_ad hf h3 hc (by omega)]
  have : (24 : Int32).toInt = 24 := by decide
  omega
theorem own_as (p : Int32) {a b c : Int32} (q : a + b = c) : (p + a) + b = p + c := by rw [Int32.add_assoc, q]
theorem own_b8n (x : Int32) : (nar .byte x).toInt8.toInt32 = nar .byte x := own_b8 x
theorem own_upb {w : Nat → Int32} {n : Nat} {x : Int32} (q : ∀ j, (w j).toInt8.toInt32 = w j) : ∀ j, (own_up w n (nar .byte x) j).toInt8.toInt32 = own_up w n (nar .byte x) j := fun j => by
  unfold own_up; split
  · exact own_b8n x
  · exact q j
theorem own_upf {w : Nat → Int32} (f n i : Nat) (x : Int32) : own_up w (f + n) x (f + i) = if i = n then x else w (f + i) := by
  unfold own_up
  by_cases h : i = n
  · rw [if_pos (by rw [h]), if_pos h]
  · rw [if_neg (by omega), if_neg h]
theorem own_and3r (x : Int32) : ∃ f : Nat, (x &&& 3).toInt = (f : Int) ∧ f ≤ 3 := by
  have e1 : (x &&& 3).toInt = x.toInt % 2 ^ 2 := Jvm.Kit.i32_mask x 3 (k := 2) (by decide) (by decide)
  exact ⟨(x.toInt % 4).toNat, by omega, by omega⟩
theorem own_mod12 (x : Int32) : 0 ≤ ((x &&& 2147483647) % 12).toInt ∧ ((x &&& 2147483647) % 12).toInt < 12 := by
  have e1 : (x &&& 2147483647).toInt = x.toInt % 2 ^ 31 := Jvm.Kit.i32_mask x 2147483647 (k := 31) (by decide) (by decide)
  generalize x &&& 2147483647 = y at *
  have e2 : (y % 12).toInt = y.toInt % 12 := by
    rw [Int32.toInt_mod]
    have : (12 : Int32).toInt = 12 := by decide
    rw [this, Int.tmod_eq_emod_of_nonneg (by omega)]
  omega
theorem own_24 {p : Int32} {f : Nat} (hf : p.toInt = (f : Int)) (h3 : f ≤ 3) : p.toInt < (24 : Int32).toInt := by
  have : (24 : Int32).toInt = 24 := by decide
  omega
theorem own_00 {p : Int32} {f : Nat} (hf : p.toInt = (f : Int)) : p.toInt = ((f + 0 : Nat) : Int) := hf
theorem own_kt {k : Int32} (q : 0 ≤ k.toInt) : k.toInt = (k.toNatClampNeg : Int) := by show _ = ((Int.toNat _ : Nat) : Int); omega
theorem own_k11 {k : Int32} (q : 0 ≤ k.toInt ∧ k.toInt < 12) (hk : k < 11) : k.toNatClampNeg < 11 := by
  have := own_kt q.1
  have e : (11 : Int32).toInt = 11 := by decide
  rw [Int32.lt_iff_toInt_lt] at hk; omega
theorem own_keq {k : Int32} (q : 0 ≤ k.toInt ∧ k.toInt < 12) (hk : ¬ k < 11) : k = 11 := by
  have e : (11 : Int32).toInt = 11 := by decide
  rw [Int32.lt_iff_toInt_lt] at hk
  exact Int32.toInt_inj.mp (by omega)
theorem own_kne {k : Int32} (hk : k < 11) : ¬ k = 11 := fun e => by rw [e] at hk; exact absurd hk (by decide)
theorem own_sf8 {k o : Int32} (h8 : o.toInt8.toInt32 = o) : (own_sf k o).toInt8.toInt32 = own_sf k o := by
  unfold own_sf
  by_cases a : (k &&& 3) = 0
  · rw [if_pos a]; decide
  · by_cases b : (k &&& 3) = 1
    · rw [if_neg a, if_pos b]; decide
    · by_cases c : (k &&& 3) = 2
      · rw [if_neg a, if_neg b, if_pos c]; decide
      · rw [if_neg a, if_neg b, if_neg c]; exact h8
def own_lol : List Int32 := [120, 45, 119, 111, 114, 100, 45, 111, 100, 100, 115]
def own_upl : List Int32 := [88, 45, 87, 79, 82, 68, 45, 79, 68, 68, 83]
def own_cl (k : Int32) : Int32 := own_lol.getD k.toNatClampNeg 0
def own_cu (k : Int32) : Int32 := own_upl.getD k.toNatClampNeg 0
theorem own_f11 {P : Nat → Prop} (t : ∀ i : Fin 11, P i.val) {n : Nat} (hn : n < 11) : P n := t ⟨n, hn⟩
theorem own_hatl {k : Int32} (hn : k.toNatClampNeg < 11) : ([(.int (120 : Int32)), (.int (45 : Int32)), (.int (119 : Int32)), (.int (111 : Int32)), (.int (114 : Int32)), (.int (100 : Int32)), (.int (45 : Int32)), (.int (111 : Int32)), (.int (100 : Int32)), (.int (100 : Int32)), (.int (115 : Int32))] : List Value).getD k.toNatClampNeg (.int 0) = .int (own_cl k) := by
  unfold own_cl
  exact own_f11 (P := fun n => ([(.int (120 : Int32)), (.int (45 : Int32)), (.int (119 : Int32)), (.int (111 : Int32)), (.int (114 : Int32)), (.int (100 : Int32)), (.int (45 : Int32)), (.int (111 : Int32)), (.int (100 : Int32)), (.int (100 : Int32)), (.int (115 : Int32))] : List Value).getD n (.int 0) = .int (own_lol.getD n 0)) (by decide) hn
theorem own_hatu {k : Int32} (hn : k.toNatClampNeg < 11) : ([(.int (88 : Int32)), (.int (45 : Int32)), (.int (87 : Int32)), (.int (79 : Int32)), (.int (82 : Int32)), (.int (68 : Int32)), (.int (45 : Int32)), (.int (79 : Int32)), (.int (68 : Int32)), (.int (68 : Int32)), (.int (83 : Int32))] : List Value).getD k.toNatClampNeg (.int 0) = .int (own_cu k) := by
  unfold own_cu
  exact own_f11 (P := fun n => ([(.int (88 : Int32)), (.int (45 : Int32)), (.int (87 : Int32)), (.int (79 : Int32)), (.int (82 : Int32)), (.int (68 : Int32)), (.int (45 : Int32)), (.int (79 : Int32)), (.int (68 : Int32)), (.int (68 : Int32)), (.int (83 : Int32))] : List Value).getD n (.int 0) = .int (own_upl.getD n 0)) (by decide) hn
theorem own_ccl {k : Int32} (hn : k.toNatClampNeg < 11) : ((own_cl k &&& (255 : Int32)).toUInt32.toUInt16.toUInt32.toInt32) = own_cl k := by
  unfold own_cl
  exact own_f11 (P := fun n => ((own_lol.getD n 0 &&& (255 : Int32)).toUInt32.toUInt16.toUInt32.toInt32) = own_lol.getD n 0) (by decide) hn
theorem own_ccu {k : Int32} (hn : k.toNatClampNeg < 11) : ((own_cu k &&& (255 : Int32)).toUInt32.toUInt16.toUInt32.toInt32) = own_cu k := by
  unfold own_cu
  exact own_f11 (P := fun n => ((own_upl.getD n 0 &&& (255 : Int32)).toUInt32.toUInt16.toUInt32.toInt32) = own_upl.getD n 0) (by decide) hn
theorem own_kin {k : Int32} (q : 0 ≤ k.toInt) (hk : k < 11) : ¬ (k < 0) ∧ k < (11 : Int32) := by
  have e : (0 : Int32).toInt = 0 := by decide
  exact ⟨by rw [Int32.lt_iff_toInt_lt]; omega, hk⟩
theorem own_f8 {P : Int32 → Prop} (t : ∀ k : Fin 256, P (Int8.ofNat k.val).toInt32) (x : Int32) : P x.toInt8.toInt32 := by
  have e : x.toInt8 = Int8.ofNat x.toInt8.toBitVec.toNat := by
    apply Int8.toBitVec_inj.mp
    show _ = BitVec.ofNat 8 _
    rw [BitVec.ofNat_toNat]; simp
  rw [e]; exact t ⟨_, x.toInt8.toBitVec.isLt⟩
theorem own_lcb (x : Int32) {n : Nat} (hn : n < 11) : own_lc x.toInt8.toInt32 = own_lol.getD n 0 ↔ x.toInt8.toInt32 = own_lol.getD n 0 ∨ x.toInt8.toInt32 = own_upl.getD n 0 :=
  own_f8 (P := fun b => own_lc b = own_lol.getD n 0 ↔ b = own_lol.getD n 0 ∨ b = own_upl.getD n 0) (own_f11 (P := fun n => ∀ k : Fin 256, own_lc (Int8.ofNat k.val).toInt32 = own_lol.getD n 0 ↔ (Int8.ofNat k.val).toInt32 = own_lol.getD n 0 ∨ (Int8.ofNat k.val).toInt32 = own_upl.getD n 0) (by decide +kernel) hn) x
theorem own_wr {fr en : Int32} {f : Nat} (hf : fr.toInt = (f : Int)) (h3 : f ≤ 3) (a : fr + 11 < en) : (11 : Int32) < en - fr := by
  have e : (11 : Int32).toInt = 11 := by decide
  rw [Int32.lt_iff_toInt_lt, own_ad hf h3 (n := 11) (by decide) (by decide)] at a
  have hu := en.toInt_lt
  rw [Int32.lt_iff_toInt_lt, Int32.toInt_sub, hf, Int.bmod_eq_of_le (by omega) (by omega)]; omega
theorem own_bgt {wl : Nat → Int32} {f : Nat} {fr en : Int32} (hf : fr.toInt = (f : Int)) (h3 : f ≤ 3) (q : ∀ i : Fin 11, own_lc (wl (f + i.val)) = own_lol.getD i.val 0) : own_bg wl f fr en = own_t0 wl f fr en := by
  by_cases a : (11 : Int32) < en - fr
  · have c0 : own_lc (wl (f + 0)) = 120 := q 0
    have c1 : own_lc (wl (f + 1)) = 45 := q 1
    have c2 : own_lc (wl (f + 2)) = 119 := q 2
    have c3 : own_lc (wl (f + 3)) = 111 := q 3
    have c4 : own_lc (wl (f + 4)) = 114 := q 4
    have c5 : own_lc (wl (f + 5)) = 100 := q 5
    have c6 : own_lc (wl (f + 6)) = 45 := q 6
    have c7 : own_lc (wl (f + 7)) = 111 := q 7
    have c8 : own_lc (wl (f + 8)) = 100 := q 8
    have c9 : own_lc (wl (f + 9)) = 100 := q 9
    have c10 : own_lc (wl (f + 10)) = 115 := q 10
    rw [own_bg, if_pos a, if_pos c0, if_pos c1, if_pos c2, if_pos c3, if_pos c4, if_pos c5, if_pos c6, if_pos c7, if_pos c8, if_pos c9, if_pos c10]
  · rw [own_bg, if_neg a, own_t0, own_tjn (fun q => a (own_wr hf h3 q))]
theorem own_bgf {wl : Nat → Int32} {f : Nat} {fr en : Int32} (q : ∃ i : Fin 11, ¬ own_lc (wl (f + i.val)) = own_lol.getD i.val 0) : own_bg wl f fr en = 0 := by
  by_cases a : (11 : Int32) < en - fr
  · rw [own_bg, if_pos a]
    by_cases c0 : own_lc (wl (f + 0)) = 120
    · by_cases c1 : own_lc (wl (f + 1)) = 45
      · by_cases c2 : own_lc (wl (f + 2)) = 119
        · by_cases c3 : own_lc (wl (f + 3)) = 111
          · by_cases c4 : own_lc (wl (f + 4)) = 114
            · by_cases c5 : own_lc (wl (f + 5)) = 100
              · by_cases c6 : own_lc (wl (f + 6)) = 45
                · by_cases c7 : own_lc (wl (f + 7)) = 111
                  · by_cases c8 : own_lc (wl (f + 8)) = 100
                    · by_cases c9 : own_lc (wl (f + 9)) = 100
                      · by_cases c10 : own_lc (wl (f + 10)) = 115
                        · exfalso
                          obtain ⟨i, hi⟩ := q
                          match i, hi with
                          | 0, hi => exact hi c0
                          | 1, hi => exact hi c1
                          | 2, hi => exact hi c2
                          | 3, hi => exact hi c3
                          | 4, hi => exact hi c4
                          | 5, hi => exact hi c5
                          | 6, hi => exact hi c6
                          | 7, hi => exact hi c7
                          | 8, hi => exact hi c8
                          | 9, hi => exact hi c9
                          | 10, hi => exact hi c10
                        · rw [if_pos c0, if_pos c1, if_pos c2, if_pos c3, if_pos c4, if_pos c5, if_pos c6, if_pos c7, if_pos c8, if_pos c9, if_neg c10]
                      · rw [if_pos c0, if_pos c1, if_pos c2, if_pos c3, if_pos c4, if_pos c5, if_pos c6, if_pos c7, if_pos c8, if_neg c9]
                    · rw [if_pos c0, if_pos c1, if_pos c2, if_pos c3, if_pos c4, if_pos c5, if_pos c6, if_pos c7, if_neg c8]
                  · rw [if_pos c0, if_pos c1, if_pos c2, if_pos c3, if_pos c4, if_pos c5, if_pos c6, if_neg c7]
                · rw [if_pos c0, if_pos c1, if_pos c2, if_pos c3, if_pos c4, if_pos c5, if_neg c6]
              · rw [if_pos c0, if_pos c1, if_pos c2, if_pos c3, if_pos c4, if_neg c5]
            · rw [if_pos c0, if_pos c1, if_pos c2, if_pos c3, if_neg c4]
          · rw [if_pos c0, if_pos c1, if_pos c2, if_neg c3]
        · rw [if_pos c0, if_pos c1, if_neg c2]
      · rw [if_pos c0, if_neg c1]
    · rw [if_neg c0]
  · rw [own_bg, if_neg a]
theorem own_lcl (a b : Int64) : lcmpW a b < 0 ↔ a < b := by rw [lcW]; exact lc_lt a b
theorem own_i64 (x : Int32) : x.toInt64.toInt = x.toInt := Int32.toInt_toInt64 x
theorem own_aj {fr tt : Int32} {f : Nat} (hf : fr.toInt = (f : Int)) (h3 : f ≤ 3) {c : Int32} {d : Int64} {n : Nat} (hc : c.toInt = (n : Int)) (hd : d.toInt = (n : Int)) (hn : n ≤ 20) : lcmpW d (own_mnJ (tt.toInt64 - fr.toInt64) (998 : Int64)) < 0 ↔ fr + c < own_mn tt (fr + 998) := by
  rw [own_lcl, Int64.lt_iff_toInt_lt, Int32.lt_iff_toInt_lt, own_ad hf h3 hc (by omega), hd]
  have e9 : (998 : Int64).toInt = 998 := by decide
  have e0 : (0 : Int32).toInt = 0 := by decide
  have e2 : (tt.toInt64 - fr.toInt64).toInt = tt.toInt - f := by
    have h1 := tt.le_toInt
    have h2 := tt.toInt_lt
    rw [Int64.toInt_sub, own_i64, own_i64, hf, Int.bmod_eq_of_le (by omega) (by omega)]
  have e3 : (fr + 998).toInt = ((f + 998 : Nat) : Int) := own_ad hf h3 (n := 998) (by decide) (by decide)
  have g : (0 : Int32) < lcmpW (tt.toInt64 - fr.toInt64) (998 : Int64) ↔ (998 : Int64) < tt.toInt64 - fr.toInt64 := by rw [lcW]; exact lc_gt _ _
  unfold own_mnJ own_mn
  by_cases a : (998 : Int64) < tt.toInt64 - fr.toInt64
  · rw [if_pos (g.mpr a), e9]
    rw [Int64.lt_iff_toInt_lt, e9, e2] at a
    rw [if_pos (by rw [Int32.lt_iff_toInt_lt, e3]; omega), e3]; omega
  · rw [if_neg (fun q => a (g.mp q)), e2]
    rw [Int64.lt_iff_toInt_lt, e9, e2] at a
    rw [if_neg (by rw [Int32.lt_iff_toInt_lt, e3]; omega)]; omega
theorem own_mon {fr en : Int32} {f : Nat} (hf : fr.toInt = (f : Int)) (h3 : f ≤ 3) {c d : Int32} {n m : Nat} (hc : c.toInt = (n : Int)) (hd : d.toInt = (m : Int)) (hn : n ≤ m) (hm : m ≤ 20) (a : fr + d < en) : fr + c < en := by
  rw [Int32.lt_iff_toInt_lt, own_ad hf h3 hd (by omega)] at a
  rw [Int32.lt_iff_toInt_lt, own_ad hf h3 hc (by omega)]; omega
theorem own_tail {wl : Nat → Int32} {f : Nat} {fr en z0 z1 z2 z3 x0 x1 x2 x3 : Int32} {A0 A1 A2 A3 : Prop} (hf : fr.toInt = (f : Int)) (h3 : f ≤ 3) (e0 : wl (f + 11) = z0) (e1 : wl (f + 12) = z1) (e2 : wl (f + 13) = z2) (e3 : wl (f + 14) = z3)
    (hA0 : A0 ↔ fr + 11 < en) (hA1 : A1 ↔ fr + 12 < en) (hA2 : A2 ↔ fr + 13 < en) (hA3 : A3 ↔ fr + 14 < en)
    (hx0 : x0 ≠ 0 ↔ A0 ∧ z0 = 58) (hx1 : x1 ≠ 0 ↔ A1 ∧ ¬ own_ws z0 = 0 ∧ z1 = 58) (hx2 : x2 ≠ 0 ↔ A2 ∧ ¬ own_ws z0 = 0 ∧ ¬ own_ws z1 = 0 ∧ z2 = 58) (hx3 : x3 ≠ 0 ↔ A3 ∧ ¬ own_ws z0 = 0 ∧ ¬ own_ws z1 = 0 ∧ ¬ own_ws z2 = 0 ∧ z3 = 58) :
    own_t0 wl f fr en = if x0 ≠ 0 ∨ x1 ≠ 0 ∨ x2 ≠ 0 ∨ x3 ≠ 0 then 1 else 0 := by
  have m1 : fr + 12 < en → fr + 11 < en := own_mon hf h3 (n := 11) (m := 12) (by decide) (by decide) (by decide) (by decide)
  have m2 : fr + 13 < en → fr + 12 < en := own_mon hf h3 (n := 12) (m := 13) (by decide) (by decide) (by decide) (by decide)
  have m3 : fr + 14 < en → fr + 13 < en := own_mon hf h3 (n := 13) (m := 14) (by decide) (by decide) (by decide) (by decide)
  have w : ∀ z : Int32, ¬ own_ws z = 0 ↔ (z = 32 ∨ z = 9) := fun z => by
    unfold own_ws
    by_cases a : z = 32
    · simp [a]
    · by_cases b : z = 9
      · simp [b]
      · simp [a, b]
  rw [hA0] at hx0; rw [hA1] at hx1; rw [hA2] at hx2; rw [hA3] at hx3
  simp only [w] at hx1 hx2 hx3
  simp only [hx0, hx1, hx2, hx3]
  simp only [own_t0, own_t1, own_t2, own_t3, own_tj, e0, e1, e2, e3]
  clear hx0 hx1 hx2 hx3 hA0 hA1 hA2 hA3 w e0 e1 e2 e3 hf
  have n1 : ¬ (32 : Int32) = 58 := by decide
  have n2 : ¬ (9 : Int32) = 58 := by decide
  have n3 : ¬ (32 : Int32) = 9 := by decide
  by_cases b0 : fr + 11 < en
  · by_cases b1 : fr + 12 < en
    · by_cases b2 : fr + 13 < en
      · by_cases b3 : fr + 14 < en
        · simp only [b0, b1, b2, b3, if_true, true_and]; grind
        · simp only [b0, b1, b2, b3, if_true, if_false, true_and, false_and, or_false]; grind
      · have b3 : ¬ fr + 14 < en := fun q => b2 (m3 q)
        simp only [b0, b1, b2, b3, if_true, if_false, true_and, false_and, or_false]; grind
    · have b2 : ¬ fr + 13 < en := fun q => b1 (m2 q)
      have b3 : ¬ fr + 14 < en := fun q => b2 (m3 q)
      simp only [b0, b1, b2, b3, if_true, if_false, true_and, false_and, or_false]; grind
  · have b1 : ¬ fr + 12 < en := fun q => b0 (m1 q)
    have b2 : ¬ fr + 13 < en := fun q => b1 (m2 q)
    have b3 : ¬ fr + 14 < en := fun q => b2 (m3 q)
    simp only [b0, b1, b2, b3, if_false, false_and, or_false]
theorem d3_0 : decode jdk_42_method_154_code 0 = .ok (.getstatic 38, 3) := by decide +kernel
theorem d3_3 : decode jdk_42_method_154_code 3 = .ok (.ifCond .eq 14, 3) := by decide +kernel
theorem d3_6 : decode jdk_42_method_154_code 6 = .ok (.aload_n 0, 1) := by decide +kernel
theorem d3_7 : decode jdk_42_method_154_code 7 = .ok (.getfield 15, 3) := by decide +kernel
theorem d3_10 : decode jdk_42_method_154_code 10 = .ok (.ifCond .ne 7, 3) := by decide +kernel
theorem d3_13 : decode jdk_42_method_154_code 13 = .ok (.iconst 1, 1) := by decide +kernel
theorem d3_14 : decode jdk_42_method_154_code 14 = .ok (.goto 4, 3) := by decide +kernel
theorem d3_17 : decode jdk_42_method_154_code 17 = .ok (.iconst 0, 1) := by decide +kernel
theorem d3_18 : decode jdk_42_method_154_code 18 = .ok (.ireturn, 1) := by decide +kernel
theorem ef_3_0 (m : MethodId) (o0 : Addr) : entryFrame m #[(.ref o0)] 1 = mkF m 0 #[.val (.ref o0)] [] := by first | (simp [entryFrame, mkF, argsToLocals, Value.category]; done) | rfl
theorem pn_java_lang_String : plainName "java/lang/String" = true := by first | (simp [plainName, overriddenIn]; done) | decide +kernel
def Q_rm3 (Z : State) (o0 : Addr) (gC : Int32) (h0 : Heap) (n0 : Nat) (v : Option Value) (h : Heap) (L : List Loc) : Prop := v = some (.int 1) ∧ Fr n0 L ∧ h = h0
set_option maxRecDepth 65536 in
set_option maxHeartbeats 40000000 in
theorem rm3 (l : Launch) (Z : State) (a0 : Array Value) (hw : ∀ d ∈ tables_1, d.before a0 Z = true) (ws : List Jvm.Cond) (o0 : Addr) (gC : Int32) (h0 : Heap) (n0 : Nat) (Z0 : n0 ≤ h0.size) (SC : Sta Z h0 "java/lang/String" "COMPACT_STRINGS" "Z" (.int gC)) (cC : ¬ (gC = (0 : Int32))) (FC : Fld Z h0 o0 "java/lang/String" "coder" "B" (.int (0 : Int32))) :
    MetFree l (⟨"java/lang/String", "isLatin1", "()Z"⟩ : MethodName) (head1 (Jvm.Cond.code (⟨"java/lang/String", "isLatin1", "()Z"⟩ : MethodName) jdk_42_method_154_code 1 (some .boolean) :: ws) ({ frames := 0, cells := 0, slots := 0, locals := 0 } : Room)) (fun a U => a = #[(.ref o0)] ∧ Z.Warmed39 U.vm ∧ U.heap = h0) (fun _ _ _ _ _ => True) (fun _ U o U' => ∃ v L, o = .returned v ∧ Q_rm3 Z o0 gC h0 n0 v U'.heap L ∧ FrameEnd U o U' L ({ frames := 0, cells := 0, slots := 0, locals := 0 } : Room).cells ({ frames := 0, cells := 0, slots := 0, locals := 0 } : Room).slots) := by
  refine MetFree.of_bodySF (plainFor_of_name pn_java_lang_String) hisR ?_
  intro p e s m args below meth c s₁ Bd hml0 hP hK
  obtain ⟨rfl, hZ, hh⟩ := hP
  have hx := Bd.exec
  have hby := Bd.bytes
  have hlk := BodyLoose.notSynchronized Bd
  have hrt := Bd.returns
  have hml : c.maxLocals = 1 := hml0
  have hown : s.vm.findClass "java/lang/String" = some m.cls := findClass_of_methodNamed Bd.named
  have hnm := (name_of_methodNamed Bd.named Bd.method).1
  have X0 : Stand p l e ({ frames := 0, cells := 0, slots := 0, locals := 0 } : Room) s m #[(.ref o0)] below meth c s₁ [] 0 0 := Stand.of_body Bd
  have e0 : s₁.heap = h0 := by rw [← hh, Bd.state]; rfl
  have N0 := Fr.nil n0
  have K0 : Keep h0 h0 [] := Keep.refl h0 _
  show Runs p e below (QE s (Q_rm3 Z o0 gC h0 n0) ({ frames := 0, cells := 0, slots := 0, locals := 0 } : Room).cells ({ frames := 0, cells := 0, slots := 0, locals := 0 } : Room).slots) (s₁.setTop (entryFrame m #[(.ref o0)] 1))
  rw [ef_3_0 m o0]
  show Runs p e below _ (s₁.setTop (mkF m 0 #[.val (.ref o0)] []))
  obtain ⟨T1, X1, e1, st1⟩ := getS2 X0 hx hZ hown (host := "") (Or.inl (hw _ (List.mem_of_getElem? (i := 23) rfl))) Via.refl e0 SC (g := (mkF m 0 #[.val (.ref o0)] [])) rfl (hb hby d3_0)
  refine Runs.by st1 ?_
  have hc3 : ¬ (gC = (0 : Int32)) := cC
  refine Runs.by (fun _ hr => XS.ifNo X1.here hx rfl (hb hby d3_3) rfl ((if0 _ _).trans (feq hc3).1) hr) ?_
  refine Runs.by (fun _ hr => XS.aloadN X1.here hx rfl (hb hby d3_6) rfl rfl hr) ?_
  show Runs p e below _ (T1.setTop (mkF m 7 #[.val (.ref o0)] [(.ref o0)]))
  obtain ⟨T2, X2, e2, st2⟩ := getF X1 hx hZ hown (host := "") (Or.inl (hw _ (List.mem_of_getElem? (i := 24) rfl))) Via.refl e1 FC (g := (mkF m 7 #[.val (.ref o0)] [(.ref o0)])) rfl rfl (hb hby d3_7)
  refine Runs.by st2 ?_
  have hc10 : (0 : Int32) = (0 : Int32) := (by decide)
  refine Runs.by (fun _ hr => XS.ifNo X2.here hx rfl (hb hby d3_10) rfl ((if0 _ _).trans (teq hc10).2) hr) ?_
  refine Runs.by (fun _ hr => XS.iconst X2.here hx rfl (hb hby d3_13) hr) ?_
  show Runs p e below _ (T2.setTop (mkF m 14 #[.val (.ref o0)] [(.int (1 : Int32))]))
  refine Runs.by (fun _ hr => XS.goto X2.here hx rfl (pc0 := 14) (pc' := 18) rfl (hb hby d3_14) (by decide) (by decide) hr) ?_
  show Runs p e below _ (T2.setTop (mkF m 18 #[.val (.ref o0)] [(.int (1 : Int32))]))
  refine Runs.ret X2 hx hrt hlk (Or.inl ⟨rfl, by simp, _, rfl⟩) (by rfl) (hb hby d3_18) (by decide) (by decide) ?_
  rw [e2]
  exact ⟨rfl, N0, rfl⟩
theorem d6_0 : decode jdk_41_method_11_code 0 = .ok (.iload_n 0, 1) := by decide +kernel
theorem d6_1 : decode jdk_41_method_11_code 1 = .ok (.ifCond .lt 8, 3) := by decide +kernel
theorem d6_4 : decode jdk_41_method_11_code 4 = .ok (.iload_n 0, 1) := by decide +kernel
theorem d6_5 : decode jdk_41_method_11_code 5 = .ok (.iload_n 1, 1) := by decide +kernel
theorem d6_6 : decode jdk_41_method_11_code 6 = .ok (.if_icmp .lt 10, 3) := by decide +kernel
theorem d6_16 : decode jdk_41_method_11_code 16 = .ok (.iload_n 0, 1) := by decide +kernel
theorem d6_17 : decode jdk_41_method_11_code 17 = .ok (.ireturn, 1) := by decide +kernel
theorem ef_6_1 (m : MethodId) (p0 : Int32) (p1 : Int32) (vG : Value) (hvG : vG.isRef = true) : entryFrame m #[(.int p0), (.int p1), vG] 3 = mkF m 0 #[.val (.int p0), .val (.int p1), .val vG] [] := by rcases ref_cases hvG with rfl | ⟨_, rfl⟩ <;> first | (simp [entryFrame, mkF, argsToLocals, Value.category]; done) | rfl
theorem pn_jdk_internal_util_Preconditions : plainName "jdk/internal/util/Preconditions" = true := by first | (simp [plainName, overriddenIn]; done) | decide +kernel
def Q_rm6 (Z : State) (p0 : Int32) (p1 : Int32) (vG : Value)  (h0 : Heap) (n0 : Nat) (v : Option Value) (h : Heap) (L : List Loc) : Prop := v = some (.int p0) ∧ Fr n0 L ∧ h = h0
set_option maxRecDepth 65536 in
set_option maxHeartbeats 40000000 in
theorem rm6 (l : Launch) (Z : State) (a0 : Array Value) (hw : ∀ d ∈ tables_1, d.before a0 Z = true) (ws : List Jvm.Cond) (p0 : Int32) (p1 : Int32) (vG : Value)  (h0 : Heap) (n0 : Nat) (Z0 : n0 ≤ h0.size) (hvG : vG.isRef = true) (hin : ¬ (p0 < 0) ∧ p0 < p1) :
    MetFree l (⟨"jdk/internal/util/Preconditions", "checkIndex", "(IILjava/util/function/BiFunction;)I"⟩ : MethodName) (head1 (Jvm.Cond.code (⟨"jdk/internal/util/Preconditions", "checkIndex", "(IILjava/util/function/BiFunction;)I"⟩ : MethodName) jdk_41_method_11_code 3 (some .int) :: ws) ({ frames := 0, cells := 0, slots := 0, locals := 0 } : Room)) (fun a U => a = #[(.int p0), (.int p1), vG] ∧ Z.Warmed39 U.vm ∧ U.heap = h0) (fun _ _ _ _ _ => True) (fun _ U o U' => ∃ v L, o = .returned v ∧ Q_rm6 Z p0 p1 vG h0 n0 v U'.heap L ∧ FrameEnd U o U' L ({ frames := 0, cells := 0, slots := 0, locals := 0 } : Room).cells ({ frames := 0, cells := 0, slots := 0, locals := 0 } : Room).slots) := by
  refine MetFree.of_bodySF (plainFor_of_name pn_jdk_internal_util_Preconditions) hisR ?_
  intro p e s m args below meth c s₁ Bd hml0 hP hK
  obtain ⟨rfl, hZ, hh⟩ := hP
  have hx := Bd.exec
  have hby := Bd.bytes
  have hlk := BodyLoose.notSynchronized Bd
  have hrt := Bd.returns
  have hml : c.maxLocals = 3 := hml0
  have hown : s.vm.findClass "jdk/internal/util/Preconditions" = some m.cls := findClass_of_methodNamed Bd.named
  have hnm := (name_of_methodNamed Bd.named Bd.method).1
  have X0 : Stand p l e ({ frames := 0, cells := 0, slots := 0, locals := 0 } : Room) s m #[(.int p0), (.int p1), vG] below meth c s₁ [] 0 0 := Stand.of_body Bd
  have e0 : s₁.heap = h0 := by rw [← hh, Bd.state]; rfl
  have N0 := Fr.nil n0
  have K0 : Keep h0 h0 [] := Keep.refl h0 _
  show Runs p e below (QE s (Q_rm6 Z p0 p1 vG h0 n0) ({ frames := 0, cells := 0, slots := 0, locals := 0 } : Room).cells ({ frames := 0, cells := 0, slots := 0, locals := 0 } : Room).slots) (s₁.setTop (entryFrame m #[(.int p0), (.int p1), vG] 3))
  rw [ef_6_1 m p0 p1 vG hvG]
  refine Runs.by (fun _ hr => XS.iloadN X0.here hx rfl (hb hby d6_0) rfl  hr) ?_
  have hc1 : ¬ (p0 < (0 : Int32)) := hin.1
  refine Runs.by (fun _ hr => XS.ifNo X0.here hx rfl (hb hby d6_1) rfl ((if0 _ _).trans (flt hc1).1) hr) ?_
  show Runs p e below _ (s₁.setTop (mkF m 4 #[.val (.int p0), .val (.int p1), .val vG] []))
  refine Runs.by (fun _ hr => XS.iloadN X0.here hx rfl (hb hby d6_4) rfl  hr) ?_
  refine Runs.by (fun _ hr => XS.iloadN X0.here hx rfl (hb hby d6_5) rfl  hr) ?_
  have hc6 : p0 < p1 := hin.2
  refine Runs.by (fun _ hr => XS.icmpYes X0.here hx rfl (pc0 := 6) (pc' := 16) rfl (hb hby d6_6) rfl (tlt hc6).1 (by decide) (by decide) hr) ?_
  show Runs p e below _ (s₁.setTop (mkF m 16 #[.val (.int p0), .val (.int p1), .val vG] []))
  refine Runs.by (fun _ hr => XS.iloadN X0.here hx rfl (hb hby d6_16) rfl  hr) ?_
  show Runs p e below _ (s₁.setTop (mkF m 17 #[.val (.int p0), .val (.int p1), .val vG] [(.int p0)]))
  refine Runs.ret X0 hx hrt hlk (Or.inl ⟨rfl, by simp, _, rfl⟩) rfl (hb hby d6_17) (by decide) (by decide) ?_
  rw [e0]
  exact ⟨rfl, N0, rfl⟩
theorem d5_0 : decode jdk_42_method_155_code 0 = .ok (.iload_n 0, 1) := by decide +kernel
theorem d5_1 : decode jdk_42_method_155_code 1 = .ok (.iload_n 1, 1) := by decide +kernel
theorem d5_2 : decode jdk_42_method_155_code 2 = .ok (.getstatic 1053, 3) := by decide +kernel
theorem d5_5 : decode jdk_42_method_155_code 5 = .ok (.invokestatic 1059, 3) := by decide +kernel
theorem d5_8 : decode jdk_42_method_155_code 8 = .ok (.pop, 1) := by decide +kernel
theorem d5_9 : decode jdk_42_method_155_code 9 = .ok (.return_, 1) := by decide +kernel
theorem ef_5_2 (m : MethodId) (p0 : Int32) (p1 : Int32) : entryFrame m #[(.int p0), (.int p1)] 2 = mkF m 0 #[.val (.int p0), .val (.int p1)] [] := by first | (simp [entryFrame, mkF, argsToLocals, Value.category]; done) | rfl
def Q_rm5 (Z : State) (p0 : Int32) (p1 : Int32) (vG : Value) (h0 : Heap) (n0 : Nat) (v : Option Value) (h : Heap) (L : List Loc) : Prop := v = none ∧ Fr n0 L ∧ h = h0
theorem pd_0 : parseMethodDescriptor "(IILjava/util/function/BiFunction;)I" = some ⟨[.int, .int, (.object "java/util/function/BiFunction")], some .int⟩ := by decide +kernel
set_option maxRecDepth 65536 in
set_option maxHeartbeats 40000000 in
theorem rm5 (l : Launch) (Z : State) (a0 : Array Value) (hw : ∀ d ∈ tables_1, d.before a0 Z = true) (ws : List Jvm.Cond) (p0 : Int32) (p1 : Int32) (vG : Value) (h0 : Heap) (n0 : Nat) (Z0 : n0 ≤ h0.size) (hvG : vG.isRef = true) (hin : ¬ (p0 < 0) ∧ p0 < p1) (SG : Sta Z h0 "jdk/internal/util/Preconditions" "SIOOBE_FORMATTER" "Ljava/util/function/BiFunction;" vG) :
    MetFree l (⟨"java/lang/String", "checkIndex", "(II)V"⟩ : MethodName) (head1 (Jvm.Cond.code (⟨"java/lang/String", "checkIndex", "(II)V"⟩ : MethodName) jdk_42_method_155_code 2 none :: ws) ({ frames := 1, cells := 0, slots := 0, locals := 14 } : Room)) (fun a U => a = #[(.int p0), (.int p1)] ∧ Z.Warmed39 U.vm ∧ U.heap = h0) (fun _ _ _ _ _ => True) (fun _ U o U' => ∃ v L, o = .returned v ∧ Q_rm5 Z p0 p1 vG h0 n0 v U'.heap L ∧ FrameEnd U o U' L ({ frames := 1, cells := 0, slots := 0, locals := 14 } : Room).cells ({ frames := 1, cells := 0, slots := 0, locals := 14 } : Room).slots) := by
  refine MetFree.of_bodySF (plainFor_of_name pn_java_lang_String) hisR ?_
  intro p e s m args below meth c s₁ Bd hml0 hP hK
  obtain ⟨rfl, hZ, hh⟩ := hP
  have hx := Bd.exec
  have hby := Bd.bytes
  have hlk := BodyLoose.notSynchronized Bd
  have hrt := Bd.returns
  have hml : c.maxLocals = 2 := hml0
  have hown : s.vm.findClass "java/lang/String" = some m.cls := findClass_of_methodNamed Bd.named
  have hnm := (name_of_methodNamed Bd.named Bd.method).1
  have X0 : Stand p l e ({ frames := 1, cells := 0, slots := 0, locals := 14 } : Room) s m #[(.int p0), (.int p1)] below meth c s₁ [] 0 0 := Stand.of_body Bd
  have e0 : s₁.heap = h0 := by rw [← hh, Bd.state]; rfl
  have N0 := Fr.nil n0
  have K0 : Keep h0 h0 [] := Keep.refl h0 _
  show Runs p e below (QE s (Q_rm5 Z p0 p1 vG h0 n0) ({ frames := 1, cells := 0, slots := 0, locals := 14 } : Room).cells ({ frames := 1, cells := 0, slots := 0, locals := 14 } : Room).slots) (s₁.setTop (entryFrame m #[(.int p0), (.int p1)] 2))
  rw [ef_5_2 m p0 p1]
  refine Runs.by (fun _ hr => XS.iloadN X0.here hx rfl (hb hby d5_0) rfl  hr) ?_
  refine Runs.by (fun _ hr => XS.iloadN X0.here hx rfl (hb hby d5_1) rfl  hr) ?_
  show Runs p e below _ (s₁.setTop (mkF m 2 #[.val (.int p0), .val (.int p1)] [(.int p1), (.int p0)]))
  obtain ⟨T1, X1, e1, st1⟩ := getS2 X0 hx hZ hown (host := "") (Or.inl (hw _ (List.mem_of_getElem? (i := 33) rfl))) Via.refl e0 SG (g := (mkF m 2 #[.val (.int p0), .val (.int p1)] [(.int p1), (.int p0)])) rfl (hb hby d5_2)
  refine Runs.by st1 ?_
  show Runs p e below _ (T1.setTop (mkF m 5 #[.val (.int p0), .val (.int p1)] [vG, (.int p1), (.int p0)]))
  obtain ⟨_, _, ⟨T2, L2, k2, n2⟩, -, X2, ⟨Lc2, hQ2, l2, y2, z2⟩, st2⟩ := Jvm.LawKit.callS X1 hx (y := (⟨"jdk/internal/util/Preconditions", "checkIndex", "(IILjava/util/function/BiFunction;)I"⟩ : MethodName)) hown (mvT hZ (hw _ (List.mem_of_getElem? (i := 35) rfl))) (mvT hZ (hw _ (List.mem_of_getElem? (i := 36) rfl))) (mvT hZ (hw _ (List.mem_of_getElem? (i := 34) rfl))) (mvT hZ (hw _ (List.mem_of_getElem? (i := 37) rfl))) (by decide) (backOf (W := 0) (rm6 l Z a0 hw [] p0 p1 vG  h0 n0 (Nat.le_trans Z0 K0.1) hvG hin) hZ (hw _ (List.mem_of_getElem? (i := 37) rfl)) (hw _ (List.mem_of_getElem? (i := 34) rfl)) (by decide) (by decide)) (g := (mkF m 5 #[.val (.int p0), .val (.int p1)] [vG, (.int p1), (.int p0)])) rfl (by rw [hml]; rfl) (argsL := [(.int p0), (.int p1), vG]) (rest := []) (lenOf pd_0 rfl) rfl (by show 2 * 0 + _ ≤ _; exact Nat.le_of_eq rfl) (hb hby d5_5) (fun _ _ => ⟨rfl, e1, (by decide : 0 + 0 ≤ _), (by decide : 0 + 0 ≤ _)⟩)
  dsimp only [Pt.U, Pt.locs, Pt.cells, Pt.slots] at X2 l2 y2 z2 st2 hQ2
  subst l2 y2 z2
  obtain ⟨rfl, Nq2, eq2⟩ := hQ2
  have N2 := Fr.app N0 Nq2
  refine Runs.by (fun t hr => st2 t hr) ?_
  show Runs p e below _ (T2.setTop (mkF m 8 #[.val (.int p0), .val (.int p1)] [(.int p0)]))
  refine Runs.by (fun _ hr => XS.pop X2.here hx rfl (hb hby d5_8) rfl rfl hr) ?_
  show Runs p e below _ (T2.setTop (mkF m 9 #[.val (.int p0), .val (.int p1)] []))
  refine Runs.retV X2 hx hrt hlk (hb hby d5_9) (by decide) (by decide) ?_
  rw [eq2]
  exact ⟨rfl, N2, rfl⟩
theorem d4_0 : decode jdk_43_method_2_code 0 = .ok (.iload_n 1, 1) := by decide +kernel
theorem d4_1 : decode jdk_43_method_2_code 1 = .ok (.aload_n 0, 1) := by decide +kernel
theorem d4_2 : decode jdk_43_method_2_code 2 = .ok (.arraylength, 1) := by decide +kernel
theorem d4_3 : decode jdk_43_method_2_code 3 = .ok (.invokestatic 9, 3) := by decide +kernel
theorem d4_6 : decode jdk_43_method_2_code 6 = .ok (.aload_n 0, 1) := by decide +kernel
theorem d4_7 : decode jdk_43_method_2_code 7 = .ok (.iload_n 1, 1) := by decide +kernel
theorem d4_8 : decode jdk_43_method_2_code 8 = .ok (.baload, 1) := by decide +kernel
theorem d4_9 : decode jdk_43_method_2_code 9 = .ok (.sipush 255, 3) := by decide +kernel
theorem d4_12 : decode jdk_43_method_2_code 12 = .ok (.iand, 1) := by decide +kernel
theorem d4_13 : decode jdk_43_method_2_code 13 = .ok (.i2c, 1) := by decide +kernel
theorem d4_14 : decode jdk_43_method_2_code 14 = .ok (.ireturn, 1) := by decide +kernel
theorem ef_4_3 (m : MethodId) (o0 : Addr) (p1 : Int32) : entryFrame m #[(.ref o0), (.int p1)] 2 = mkF m 0 #[.val (.ref o0), .val (.int p1)] [] := by first | (simp [entryFrame, mkF, argsToLocals, Value.category]; done) | rfl
theorem pn_java_lang_StringLatin1 : plainName "java/lang/StringLatin1" = true := by first | (simp [plainName, overriddenIn]; done) | decide +kernel
def Q_rm4 (Z : State) (o0 : Addr) (p1 : Int32) (vG : Value) (k : ClassId) (z : Int32) (vs : List Value) (dv : Value) (bb : Int32) (h0 : Heap) (n0 : Nat) (v : Option Value) (h : Heap) (L : List Loc) : Prop := v = some (.int ((bb &&& (255 : Int32)).toUInt32.toUInt16.toUInt32.toInt32)) ∧ Fr n0 L ∧ h = h0
theorem pd_1 : parseMethodDescriptor "(II)V" = some ⟨[.int, .int], none⟩ := by decide +kernel
set_option maxRecDepth 65536 in
set_option maxHeartbeats 40000000 in
theorem rm4 (l : Launch) (Z : State) (a0 : Array Value) (hw : ∀ d ∈ tables_1, d.before a0 Z = true) (ws : List Jvm.Cond) (o0 : Addr) (p1 : Int32) (vG : Value) (k : ClassId) (z : Int32) (vs : List Value) (dv : Value) (bb : Int32) (h0 : Heap) (n0 : Nat) (Z0 : n0 ≤ h0.size) (hvG : vG.isRef = true) (hin : ¬ (p1 < 0) ∧ p1 < z) (SG : Sta Z h0 "jdk/internal/util/Preconditions" "SIOOBE_FORMATTER" "Ljava/util/function/BiFunction;" vG) (V0 : Arv Z h0 o0 k .byte z vs dv) (hat : vs.getD p1.toNatClampNeg dv = .int bb) :
    MetFree l (⟨"java/lang/StringLatin1", "charAt", "([BI)C"⟩ : MethodName) (head1 (Jvm.Cond.code (⟨"java/lang/StringLatin1", "charAt", "([BI)C"⟩ : MethodName) jdk_43_method_2_code 2 (some .char) :: ws) ({ frames := 2, cells := 0, slots := 0, locals := 27 } : Room)) (fun a U => a = #[(.ref o0), (.int p1)] ∧ Z.Warmed39 U.vm ∧ U.heap = h0) (fun _ _ _ _ _ => True) (fun _ U o U' => ∃ v L, o = .returned v ∧ Q_rm4 Z o0 p1 vG k z vs dv bb h0 n0 v U'.heap L ∧ FrameEnd U o U' L ({ frames := 2, cells := 0, slots := 0, locals := 27 } : Room).cells ({ frames := 2, cells := 0, slots := 0, locals := 27 } : Room).slots) := by
  refine MetFree.of_bodySF (plainFor_of_name pn_java_lang_StringLatin1) hisR ?_
  intro p e s m args below meth c s₁ Bd hml0 hP hK
  obtain ⟨rfl, hZ, hh⟩ := hP
  have hx := Bd.exec
  have hby := Bd.bytes
  have hlk := BodyLoose.notSynchronized Bd
  have hrt := Bd.returns
  have hml : c.maxLocals = 2 := hml0
  have hown : s.vm.findClass "java/lang/StringLatin1" = some m.cls := findClass_of_methodNamed Bd.named
  have hnm := (name_of_methodNamed Bd.named Bd.method).1
  have X0 : Stand p l e ({ frames := 2, cells := 0, slots := 0, locals := 27 } : Room) s m #[(.ref o0), (.int p1)] below meth c s₁ [] 0 0 := Stand.of_body Bd
  have e0 : s₁.heap = h0 := by rw [← hh, Bd.state]; rfl
  have N0 := Fr.nil n0
  have K0 : Keep h0 h0 [] := Keep.refl h0 _
  show Runs p e below (QE s (Q_rm4 Z o0 p1 vG k z vs dv bb h0 n0) ({ frames := 2, cells := 0, slots := 0, locals := 27 } : Room).cells ({ frames := 2, cells := 0, slots := 0, locals := 27 } : Room).slots) (s₁.setTop (entryFrame m #[(.ref o0), (.int p1)] 2))
  rw [ef_4_3 m o0 p1]
  refine Runs.by (fun _ hr => XS.iloadN X0.here hx rfl (hb hby d4_0) rfl  hr) ?_
  refine Runs.by (fun _ hr => XS.aloadN X0.here hx rfl (hb hby d4_1) rfl rfl hr) ?_
  show Runs p e below _ (s₁.setTop (mkF m 2 #[.val (.ref o0), .val (.int p1)] [(.ref o0), (.int p1)]))
  obtain ⟨cl1, Ar1, -, S1, N1', -, -⟩ := id V0
  refine Runs.by (fun t hr => X0.arraylength hx (by rw [e0]; exact Ar1.1) (State.isArrayOf_alike hZ.alike Ar1.2.1) (g := (mkF m 2 #[.val (.ref o0), .val (.int p1)] [(.ref o0), (.int p1)])) rfl rfl (hb hby d4_2) t hr) ?_
  rw [len_of S1 N1']
  show Runs p e below _ (s₁.setTop (mkF m 3 #[.val (.ref o0), .val (.int p1)] [(.int z), (.int p1)]))
  obtain ⟨_, _, ⟨T2, L2, k2, n2⟩, -, X2, ⟨Lc2, hQ2, l2, y2, z2⟩, st2⟩ := Jvm.LawKit.callS X0 hx (y := (⟨"java/lang/String", "checkIndex", "(II)V"⟩ : MethodName)) hown (mvT hZ (hw _ (List.mem_of_getElem? (i := 30) rfl))) (mvT hZ (hw _ (List.mem_of_getElem? (i := 31) rfl))) (mvT hZ (hw _ (List.mem_of_getElem? (i := 7) rfl))) (mvT hZ (hw _ (List.mem_of_getElem? (i := 32) rfl))) (by decide) (backOf (W := 0) (rm5 l Z a0 hw [] p1 z vG h0 n0 (Nat.le_trans Z0 K0.1) hvG hin SG) hZ (hw _ (List.mem_of_getElem? (i := 32) rfl)) (hw _ (List.mem_of_getElem? (i := 7) rfl)) (by decide) (by decide)) (g := (mkF m 3 #[.val (.ref o0), .val (.int p1)] [(.int z), (.int p1)])) rfl (by rw [hml]; rfl) (argsL := [(.int p1), (.int z)]) (rest := []) (lenOf pd_1 rfl) rfl (by show 2 * 0 + _ ≤ _; exact Nat.le_of_eq rfl) (hb hby d4_3) (fun _ _ => ⟨rfl, e0, (by decide : 0 + 0 ≤ _), (by decide : 0 + 0 ≤ _)⟩)
  dsimp only [Pt.U, Pt.locs, Pt.cells, Pt.slots] at X2 l2 y2 z2 st2 hQ2
  subst l2 y2 z2
  obtain ⟨rfl, Nq2, eq2⟩ := hQ2
  have N2 := Fr.app N0 Nq2
  refine Runs.by (fun t hr => st2 t hr) ?_
  refine Runs.by (fun _ hr => XS.aloadN X2.here hx rfl (hb hby d4_6) rfl rfl hr) ?_
  refine Runs.by (fun _ hr => XS.iloadN X2.here hx rfl (hb hby d4_7) rfl  hr) ?_
  show Runs p e below _ (T2.setTop (mkF m 8 #[.val (.ref o0), .val (.int p1)] [(.int p1), (.ref o0)]))
  obtain ⟨cl3, Ar3, -, S3, N3', H3, -⟩ := id V0
  have hin3 : ¬ (p1 < 0 ∨ cl3.slots.size ≤ (p1).toNatClampNeg) := inb_of S3 hin
  have hat3 := H3.at hin3 (v := (.int bb)) hat
  refine Runs.by (fun t hr => X2.baloadBytes hx (j := p1) (v := (.int bb)) (by rw [eq2]; exact Ar3.1) (State.isArrayOf_alike hZ.alike Ar3.2.1) Ar3.2.2 hin3 hat3 (g := (mkF m 8 #[.val (.ref o0), .val (.int p1)] [(.int p1), (.ref o0)])) rfl rfl (hb hby d4_8) t hr) ?_
  refine Runs.by (fun _ hr => XS.sipush X2.here hx rfl (hb hby d4_9) hr) ?_
  show Runs p e below _ (T2.setTop (mkF m 12 #[.val (.ref o0), .val (.int p1)] [(.int (255 : Int32)), (.int bb)]))
  refine Runs.by (fun _ hr => XS.iand X2.here hx rfl (hb hby d4_12) rfl hr) ?_
  show Runs p e below _ (T2.setTop (mkF m 13 #[.val (.ref o0), .val (.int p1)] [(.int (bb &&& (255 : Int32)))]))
  refine Runs.by (fun _ hr => XS.i2c X2.here hx rfl (hb hby d4_13) rfl hr) ?_
  show Runs p e below _ (T2.setTop (mkF m 14 #[.val (.ref o0), .val (.int p1)] [(.int ((bb &&& (255 : Int32)).toUInt32.toUInt16.toUInt32.toInt32))]))
  refine Runs.ret X2 hx hrt hlk (Or.inl ⟨rfl, by simp, _, rfl⟩) (Jvm.Free.XT.narrow_c _) (hb hby d4_14) (by decide) (by decide) ?_
  rw [eq2]
  exact ⟨rfl, N2, rfl⟩
theorem d2_0 : decode jdk_42_method_56_code 0 = .ok (.aload_n 0, 1) := by decide +kernel
theorem d2_1 : decode jdk_42_method_56_code 1 = .ok (.invokevirtual 492, 3) := by decide +kernel
theorem d2_4 : decode jdk_42_method_56_code 4 = .ok (.ifCond .eq 12, 3) := by decide +kernel
theorem d2_7 : decode jdk_42_method_56_code 7 = .ok (.aload_n 0, 1) := by decide +kernel
theorem d2_8 : decode jdk_42_method_56_code 8 = .ok (.getfield 9, 3) := by decide +kernel
theorem d2_11 : decode jdk_42_method_56_code 11 = .ok (.iload_n 1, 1) := by decide +kernel
theorem d2_12 : decode jdk_42_method_56_code 12 = .ok (.invokestatic 495, 3) := by decide +kernel
theorem d2_15 : decode jdk_42_method_56_code 15 = .ok (.ireturn, 1) := by decide +kernel
theorem ef_2_4 (m : MethodId) (o0 : Addr) (p1 : Int32) : entryFrame m #[(.ref o0), (.int p1)] 2 = mkF m 0 #[.val (.ref o0), .val (.int p1)] [] := by first | (simp [entryFrame, mkF, argsToLocals, Value.category]; done) | rfl
def Q_rm2 (Z : State) (o0 : Addr) (p1 : Int32) (gC : Int32) (vG : Value) (va : Addr) (k : ClassId) (z : Int32) (vs : List Value) (dv : Value) (bb cc : Int32) (h0 : Heap) (n0 : Nat) (v : Option Value) (h : Heap) (L : List Loc) : Prop := v = some (.int cc) ∧ Fr n0 L ∧ h = h0
theorem pd_2 : parseMethodDescriptor "()Z" = some ⟨[], some .boolean⟩ := by decide +kernel
theorem pd_3 : parseMethodDescriptor "([BI)C" = some ⟨[(.array .byte), .int], some .char⟩ := by decide +kernel
set_option maxRecDepth 65536 in
set_option maxHeartbeats 40000000 in
theorem rm2 (l : Launch) (Z : State) (a0 : Array Value) (hw : ∀ d ∈ tables_1, d.before a0 Z = true) (ws : List Jvm.Cond) (o0 : Addr) (p1 : Int32) (gC : Int32) (vG : Value) (va : Addr) (k : ClassId) (z : Int32) (vs : List Value) (dv : Value) (bb cc : Int32) (h0 : Heap) (n0 : Nat) (Z0 : n0 ≤ h0.size) (E0 : Exa Z h0 o0 "java/lang/String") (SC : Sta Z h0 "java/lang/String" "COMPACT_STRINGS" "Z" (.int gC)) (cC : ¬ (gC = (0 : Int32))) (FC : Fld Z h0 o0 "java/lang/String" "coder" "B" (.int (0 : Int32))) (FV : Fld Z h0 o0 "java/lang/String" "value" "[B" (.ref va)) (hvG : vG.isRef = true) (hin : ¬ (p1 < 0) ∧ p1 < z) (SG : Sta Z h0 "jdk/internal/util/Preconditions" "SIOOBE_FORMATTER" "Ljava/util/function/BiFunction;" vG) (V0 : Arv Z h0 va k .byte z vs dv) (hat : vs.getD p1.toNatClampNeg dv = .int bb) (hcc : ((bb &&& (255 : Int32)).toUInt32.toUInt16.toUInt32.toInt32) = cc) :
    MetFree l (⟨"java/lang/String", "charAt", "(I)C"⟩ : MethodName) (head1 (Jvm.Cond.code (⟨"java/lang/String", "charAt", "(I)C"⟩ : MethodName) jdk_42_method_56_code 2 (some .char) :: ws) ({ frames := 3, cells := 0, slots := 0, locals := 40 } : Room)) (fun a U => a = #[(.ref o0), (.int p1)] ∧ Z.Warmed39 U.vm ∧ U.heap = h0) (fun _ _ _ _ _ => True) (fun _ U o U' => ∃ v L, o = .returned v ∧ Q_rm2 Z o0 p1 gC vG va k z vs dv bb cc h0 n0 v U'.heap L ∧ FrameEnd U o U' L ({ frames := 3, cells := 0, slots := 0, locals := 40 } : Room).cells ({ frames := 3, cells := 0, slots := 0, locals := 40 } : Room).slots) := by
  refine MetFree.of_bodySF (plainFor_of_name pn_java_lang_String) hisR ?_
  intro p e s m args below meth c s₁ Bd hml0 hP hK
  obtain ⟨rfl, hZ, hh⟩ := hP
  have hx := Bd.exec
  have hby := Bd.bytes
  have hlk := BodyLoose.notSynchronized Bd
  have hrt := Bd.returns
  have hml : c.maxLocals = 2 := hml0
  have hown : s.vm.findClass "java/lang/String" = some m.cls := findClass_of_methodNamed Bd.named
  have hnm := (name_of_methodNamed Bd.named Bd.method).1
  have X0 : Stand p l e ({ frames := 3, cells := 0, slots := 0, locals := 40 } : Room) s m #[(.ref o0), (.int p1)] below meth c s₁ [] 0 0 := Stand.of_body Bd
  have e0 : s₁.heap = h0 := by rw [← hh, Bd.state]; rfl
  have N0 := Fr.nil n0
  have K0 : Keep h0 h0 [] := Keep.refl h0 _
  show Runs p e below (QE s (Q_rm2 Z o0 p1 gC vG va k z vs dv bb cc h0 n0) ({ frames := 3, cells := 0, slots := 0, locals := 40 } : Room).cells ({ frames := 3, cells := 0, slots := 0, locals := 40 } : Room).slots) (s₁.setTop (entryFrame m #[(.ref o0), (.int p1)] 2))
  rw [ef_2_4 m o0 p1]
  refine Runs.by (fun _ hr => XS.aloadN X0.here hx rfl (hb hby d2_0) rfl rfl hr) ?_
  show Runs p e below _ (s₁.setTop (mkF m 1 #[.val (.ref o0), .val (.int p1)] [(.ref o0)]))
  obtain ⟨cq1, kq1, q1a, q1b, q1c⟩ := isOf hZ e0 E0
  obtain ⟨_, _, ⟨T1, L1, k1, n1⟩, -, X1, ⟨Lc1, hQ1, l1, y1, z1⟩, st1⟩ := X0.virtualBack hx (y := (⟨"java/lang/String", "isLatin1", "()Z"⟩ : MethodName)) (z := (⟨"java/lang/String", "isLatin1", "()Z"⟩ : MethodName)) hown (mvT hZ (hw _ (List.mem_of_getElem? (i := 18) rfl))) (mvT hZ (hw _ (List.mem_of_getElem? (i := 19) rfl))) (notFace_of_selects (args := #[]) (mvT hZ (hw _ (List.mem_of_getElem? (i := 21) rfl)))) (mvT hZ (hw _ (List.mem_of_getElem? (i := 21) rfl))) (mvT hZ (hw _ (List.mem_of_getElem? (i := 20) rfl))) (by decide) (backOf (W := 0) (rm3 l Z a0 hw [] o0 gC h0 n0 (Nat.le_trans Z0 K0.1) SC cC FC) hZ (hw _ (List.mem_of_getElem? (i := 22) rfl)) (hw _ (List.mem_of_getElem? (i := 7) rfl)) (by decide) (by decide)) q1a q1c (g := (mkF m 1 #[.val (.ref o0), .val (.int p1)] [(.ref o0)])) rfl (by rw [hml]; rfl) (Steps.refl _) (argsL := []) (rest := []) (lenOf pd_2 rfl) rfl (by show 2 * 0 + _ ≤ _; exact Nat.le_of_eq rfl) (hb hby d2_1) (fun _ _ => ⟨rfl, e0, (by decide : 0 + 0 ≤ _), (by decide : 0 + 0 ≤ _)⟩)
  dsimp only [Pt.U, Pt.locs, Pt.cells, Pt.slots] at X1 l1 y1 z1 st1 hQ1
  subst l1 y1 z1
  obtain ⟨rfl, Nq1, eq1⟩ := hQ1
  have N1 := Fr.app N0 Nq1
  refine Runs.by (fun _ hr => st1.trans hr) ?_
  have hc4 : ¬ ((1 : Int32) = (0 : Int32)) := (by decide)
  refine Runs.by (fun _ hr => XS.ifNo X1.here hx rfl (hb hby d2_4) rfl ((if0 _ _).trans (feq hc4).1) hr) ?_
  refine Runs.by (fun _ hr => XS.aloadN X1.here hx rfl (hb hby d2_7) rfl rfl hr) ?_
  show Runs p e below _ (T1.setTop (mkF m 8 #[.val (.ref o0), .val (.int p1)] [(.ref o0)]))
  obtain ⟨T2, X2, e2, st2⟩ := getF X1 hx hZ hown (host := "") (Or.inl (hw _ (List.mem_of_getElem? (i := 25) rfl))) Via.refl eq1 FV (g := (mkF m 8 #[.val (.ref o0), .val (.int p1)] [(.ref o0)])) rfl rfl (hb hby d2_8)
  refine Runs.by st2 ?_
  refine Runs.by (fun _ hr => XS.iloadN X2.here hx rfl (hb hby d2_11) rfl  hr) ?_
  show Runs p e below _ (T2.setTop (mkF m 12 #[.val (.ref o0), .val (.int p1)] [(.int p1), (.ref va)]))
  obtain ⟨_, _, ⟨T3, L3, k3, n3⟩, -, X3, ⟨Lc3, hQ3, l3, y3, z3⟩, st3⟩ := Jvm.LawKit.callS X2 hx (y := (⟨"java/lang/StringLatin1", "charAt", "([BI)C"⟩ : MethodName)) hown (mvT hZ (hw _ (List.mem_of_getElem? (i := 26) rfl))) (mvT hZ (hw _ (List.mem_of_getElem? (i := 27) rfl))) (mvT hZ (hw _ (List.mem_of_getElem? (i := 28) rfl))) (mvT hZ (hw _ (List.mem_of_getElem? (i := 29) rfl))) (by decide) (backOf (W := 0) (rm4 l Z a0 hw [] va p1 vG k z vs dv bb h0 n0 (Nat.le_trans Z0 K0.1) hvG hin SG V0 hat) hZ (hw _ (List.mem_of_getElem? (i := 29) rfl)) (hw _ (List.mem_of_getElem? (i := 28) rfl)) (by decide) (by decide)) (g := (mkF m 12 #[.val (.ref o0), .val (.int p1)] [(.int p1), (.ref va)])) rfl (by rw [hml]; rfl) (argsL := [(.ref va), (.int p1)]) (rest := []) (lenOf pd_3 rfl) rfl (by show 2 * 0 + _ ≤ _; exact Nat.le_of_eq rfl) (hb hby d2_12) (fun _ _ => ⟨rfl, e2, (by decide : 0 + 0 ≤ _), (by decide : 0 + 0 ≤ _)⟩)
  dsimp only [Pt.U, Pt.locs, Pt.cells, Pt.slots] at X3 l3 y3 z3 st3 hQ3
  subst l3 y3 z3
  obtain ⟨rfl, Nq3, eq3⟩ := hQ3
  have N3 := Fr.app N1 Nq3
  refine Runs.by (fun t hr => st3 t hr) ?_
  show Runs p e below _ (T3.setTop (mkF m 15 #[.val (.ref o0), .val (.int p1)] [(.int ((bb &&& (255 : Int32)).toUInt32.toUInt16.toUInt32.toInt32))]))
  refine Runs.ret X3 hx hrt hlk (Or.inl ⟨rfl, by simp, _, rfl⟩) (Jvm.Free.XT.narrow_c _) (hb hby d2_15) (by decide) (by decide) ?_
  rw [eq3]
  exact ⟨by rw [hcc], N3, rfl⟩
theorem d11_0 : decode prog_3_method_3_code 0 = .ok (.iload_n 0, 1) := by decide +kernel
theorem d11_1 : decode prog_3_method_3_code 1 = .ok (.bipush 65, 2) := by decide +kernel
theorem d11_3 : decode prog_3_method_3_code 3 = .ok (.if_icmp .lt 17, 3) := by decide +kernel
theorem d11_6 : decode prog_3_method_3_code 6 = .ok (.iload_n 0, 1) := by decide +kernel
theorem d11_7 : decode prog_3_method_3_code 7 = .ok (.bipush 90, 2) := by decide +kernel
theorem d11_9 : decode prog_3_method_3_code 9 = .ok (.if_icmp .gt 11, 3) := by decide +kernel
theorem d11_12 : decode prog_3_method_3_code 12 = .ok (.iload_n 0, 1) := by decide +kernel
theorem d11_13 : decode prog_3_method_3_code 13 = .ok (.bipush 32, 2) := by decide +kernel
theorem d11_15 : decode prog_3_method_3_code 15 = .ok (.iadd, 1) := by decide +kernel
theorem d11_16 : decode prog_3_method_3_code 16 = .ok (.i2b, 1) := by decide +kernel
theorem d11_17 : decode prog_3_method_3_code 17 = .ok (.goto 4, 3) := by decide +kernel
theorem d11_20 : decode prog_3_method_3_code 20 = .ok (.iload_n 0, 1) := by decide +kernel
theorem d11_21 : decode prog_3_method_3_code 21 = .ok (.ireturn, 1) := by decide +kernel
theorem ef_11_5 (m : MethodId) (p0 : Int32) : entryFrame m #[(.int p0)] 1 = mkF m 0 #[.val (.int p0)] [] := by first | (simp [entryFrame, mkF, argsToLocals, Value.category]; done) | rfl
theorem pn_com_example_word_odds_wordodds_filter_VerdictField : plainName "com/example/word_odds/wordodds/filter/VerdictField" = true := by first | (simp [plainName, overriddenIn]; done) | decide +kernel
def Q_rm11 (Z : State) (p0 : Int32)  (h0 : Heap) (n0 : Nat) (v : Option Value) (h : Heap) (L : List Loc) : Prop := v = some (.int (own_lc p0)) ∧ Fr n0 L ∧ h = h0
set_option maxRecDepth 65536 in
set_option maxHeartbeats 40000000 in
theorem rm11 (l : Launch) (Z : State) (a0 : Array Value) (hw : ∀ d ∈ tables_1, d.before a0 Z = true) (ws : List Jvm.Cond) (p0 : Int32)  (h0 : Heap) (n0 : Nat) (Z0 : n0 ≤ h0.size) (h8 : p0.toInt8.toInt32 = p0) :
    MetFree l (⟨"com/example/word_odds/wordodds/filter/VerdictField", "lowerCase", "(B)B"⟩ : MethodName) (head1 (Jvm.Cond.code (⟨"com/example/word_odds/wordodds/filter/VerdictField", "lowerCase", "(B)B"⟩ : MethodName) prog_3_method_3_code 1 (some .byte) :: ws) ({ frames := 0, cells := 0, slots := 0, locals := 0 } : Room)) (fun a U => a = #[(.int p0)] ∧ Z.Warmed39 U.vm ∧ U.heap = h0) (fun _ _ _ _ _ => True) (fun _ U o U' => ∃ v L, o = .returned v ∧ Q_rm11 Z p0 h0 n0 v U'.heap L ∧ FrameEnd U o U' L ({ frames := 0, cells := 0, slots := 0, locals := 0 } : Room).cells ({ frames := 0, cells := 0, slots := 0, locals := 0 } : Room).slots) := by
  refine MetFree.of_bodySF (plainFor_of_name pn_com_example_word_odds_wordodds_filter_VerdictField) hisR ?_
  intro p e s m args below meth c s₁ Bd hml0 hP hK
  obtain ⟨rfl, hZ, hh⟩ := hP
  have hx := Bd.exec
  have hby := Bd.bytes
  have hlk := BodyLoose.notSynchronized Bd
  have hrt := Bd.returns
  have hml : c.maxLocals = 1 := hml0
  have hown : s.vm.findClass "com/example/word_odds/wordodds/filter/VerdictField" = some m.cls := findClass_of_methodNamed Bd.named
  have hnm := (name_of_methodNamed Bd.named Bd.method).1
  have X0 : Stand p l e ({ frames := 0, cells := 0, slots := 0, locals := 0 } : Room) s m #[(.int p0)] below meth c s₁ [] 0 0 := Stand.of_body Bd
  have e0 : s₁.heap = h0 := by rw [← hh, Bd.state]; rfl
  have N0 := Fr.nil n0
  have K0 : Keep h0 h0 [] := Keep.refl h0 _
  show Runs p e below (QE s (Q_rm11 Z p0 h0 n0) ({ frames := 0, cells := 0, slots := 0, locals := 0 } : Room).cells ({ frames := 0, cells := 0, slots := 0, locals := 0 } : Room).slots) (s₁.setTop (entryFrame m #[(.int p0)] 1))
  rw [ef_11_5 m p0]
  refine Runs.by (fun _ hr => XS.iloadN X0.here hx rfl (hb hby d11_0) rfl  hr) ?_
  refine Runs.by (fun _ hr => XS.bipush X0.here hx rfl (hb hby d11_1) hr) ?_
  show Runs p e below _ (s₁.setTop (mkF m 3 #[.val (.int p0)] [(.int (65 : Int32)), (.int p0)]))
  by_cases hc3 : p0 < (65 : Int32)
  · -- pc 3: p0 < (65 : Int32)
    refine Runs.by (fun _ hr => XS.icmpYes X0.here hx rfl (pc0 := 3) (pc' := 20) rfl (hb hby d11_3) rfl (tlt hc3).1 (by decide) (by decide) hr) ?_
    refine Runs.by (fun _ hr => XS.iloadN X0.here hx rfl (hb hby d11_20) rfl  hr) ?_
    show Runs p e below _ (s₁.setTop (mkF m 21 #[.val (.int p0)] [(.int p0)]))
    refine Runs.ret X0 hx hrt hlk (Or.inl ⟨rfl, by simp, _, rfl⟩) (own_nb h8) (hb hby d11_21) (by decide) (by decide) ?_
    rw [e0]
    exact ⟨by rw [own_lc, if_pos hc3], N0, rfl⟩
  · -- pc 3: not p0 < (65 : Int32)
    refine Runs.by (fun _ hr => XS.icmpNo X0.here hx rfl (hb hby d11_3) rfl (flt hc3).1 hr) ?_
    refine Runs.by (fun _ hr => XS.iloadN X0.here hx rfl (hb hby d11_6) rfl  hr) ?_
    refine Runs.by (fun _ hr => XS.bipush X0.here hx rfl (hb hby d11_7) hr) ?_
    show Runs p e below _ (s₁.setTop (mkF m 9 #[.val (.int p0)] [(.int (90 : Int32)), (.int p0)]))
    by_cases hc9 : (90 : Int32) < p0
    · -- pc 9: (90 : Int32) < p0
      refine Runs.by (fun _ hr => XS.icmpYes X0.here hx rfl (pc0 := 9) (pc' := 20) rfl (hb hby d11_9) rfl (tlt hc9).2.2.1 (by decide) (by decide) hr) ?_
      refine Runs.by (fun _ hr => XS.iloadN X0.here hx rfl (hb hby d11_20) rfl  hr) ?_
      show Runs p e below _ (s₁.setTop (mkF m 21 #[.val (.int p0)] [(.int p0)]))
      refine Runs.ret X0 hx hrt hlk (Or.inl ⟨rfl, by simp, _, rfl⟩) (own_nb h8) (hb hby d11_21) (by decide) (by decide) ?_
      rw [e0]
      exact ⟨by rw [own_lc, if_neg hc3, if_pos hc9], N0, rfl⟩
    · -- pc 9: not (90 : Int32) < p0
      refine Runs.by (fun _ hr => XS.icmpNo X0.here hx rfl (hb hby d11_9) rfl (flt hc9).2.2.1 hr) ?_
      refine Runs.by (fun _ hr => XS.iloadN X0.here hx rfl (hb hby d11_12) rfl  hr) ?_
      refine Runs.by (fun _ hr => XS.bipush X0.here hx rfl (hb hby d11_13) hr) ?_
      show Runs p e below _ (s₁.setTop (mkF m 15 #[.val (.int p0)] [(.int (32 : Int32)), (.int p0)]))
      refine Runs.by (fun _ hr => XS.iadd X0.here hx rfl (hb hby d11_15) rfl hr) ?_
      show Runs p e below _ (s₁.setTop (mkF m 16 #[.val (.int p0)] [(.int (p0 + (32 : Int32)))]))
      refine Runs.by (fun _ hr => XS.i2b X0.here hx rfl (hb hby d11_16) rfl hr) ?_
      refine Runs.by (fun _ hr => XS.goto X0.here hx rfl (pc0 := 17) (pc' := 21) rfl (hb hby d11_17) (by decide) (by decide) hr) ?_
      show Runs p e below _ (s₁.setTop (mkF m 21 #[.val (.int p0)] [(.int ((p0 + (32 : Int32)).toInt8.toInt32))]))
      refine Runs.ret X0 hx hrt hlk (Or.inl ⟨rfl, by simp, _, rfl⟩) (own_nb (own_b8 _)) (hb hby d11_21) (by decide) (by decide) ?_
      rw [e0]
      exact ⟨by rw [own_lc, if_neg hc3, if_neg hc9], N0, rfl⟩
theorem d12_0 : decode method_5_code 0 = .ok (.iload_n 0, 1) := by decide +kernel
theorem d12_1 : decode method_5_code 1 = .ok (.bipush 32, 2) := by decide +kernel
theorem d12_3 : decode method_5_code 3 = .ok (.if_icmp .eq 9, 3) := by decide +kernel
theorem d12_6 : decode method_5_code 6 = .ok (.iload_n 0, 1) := by decide +kernel
theorem d12_7 : decode method_5_code 7 = .ok (.bipush 9, 2) := by decide +kernel
theorem d12_9 : decode method_5_code 9 = .ok (.if_icmp .ne 7, 3) := by decide +kernel
theorem d12_12 : decode method_5_code 12 = .ok (.iconst 1, 1) := by decide +kernel
theorem d12_13 : decode method_5_code 13 = .ok (.goto 4, 3) := by decide +kernel
theorem d12_16 : decode method_5_code 16 = .ok (.iconst 0, 1) := by decide +kernel
theorem d12_17 : decode method_5_code 17 = .ok (.ireturn, 1) := by decide +kernel
theorem ef_12_6 (m : MethodId) (p0 : Int32) : entryFrame m #[(.int p0)] 1 = mkF m 0 #[.val (.int p0)] [] := by first | (simp [entryFrame, mkF, argsToLocals, Value.category]; done) | rfl
theorem pn_com_example_word_odds_wordodds_filter_VerdictFieldBeginsPinLaw : plainName "com/example/word_odds/wordodds/filter/VerdictFieldBeginsPinLaw" = true := by first | (simp [plainName, overriddenIn]; done) | decide +kernel
def Q_rm12 (Z : State) (p0 : Int32)  (h0 : Heap) (n0 : Nat) (v : Option Value) (h : Heap) (L : List Loc) : Prop := v = some (.int (own_ws p0)) ∧ Fr n0 L ∧ h = h0
set_option maxRecDepth 65536 in
set_option maxHeartbeats 40000000 in
theorem rm12 (l : Launch) (Z : State) (a0 : Array Value) (hw : ∀ d ∈ tables_1, d.before a0 Z = true) (ws : List Jvm.Cond) (p0 : Int32)  (h0 : Heap) (n0 : Nat) (Z0 : n0 ≤ h0.size) :
    MetFree l (⟨"com/example/word_odds/wordodds/filter/VerdictFieldBeginsPinLaw", "ws", "(B)Z"⟩ : MethodName) (head1 (Jvm.Cond.code (⟨"com/example/word_odds/wordodds/filter/VerdictFieldBeginsPinLaw", "ws", "(B)Z"⟩ : MethodName) method_5_code 1 (some .boolean) :: ws) ({ frames := 0, cells := 0, slots := 0, locals := 0 } : Room)) (fun a U => a = #[(.int p0)] ∧ Z.Warmed39 U.vm ∧ U.heap = h0) (fun _ _ _ _ _ => True) (fun _ U o U' => ∃ v L, o = .returned v ∧ Q_rm12 Z p0 h0 n0 v U'.heap L ∧ FrameEnd U o U' L ({ frames := 0, cells := 0, slots := 0, locals := 0 } : Room).cells ({ frames := 0, cells := 0, slots := 0, locals := 0 } : Room).slots) := by
  refine MetFree.of_bodySF (plainFor_of_name pn_com_example_word_odds_wordodds_filter_VerdictFieldBeginsPinLaw) hisR ?_
  intro p e s m args below meth c s₁ Bd hml0 hP hK
  obtain ⟨rfl, hZ, hh⟩ := hP
  have hx := Bd.exec
  have hby := Bd.bytes
  have hlk := BodyLoose.notSynchronized Bd
  have hrt := Bd.returns
  have hml : c.maxLocals = 1 := hml0
  have hown : s.vm.findClass "com/example/word_odds/wordodds/filter/VerdictFieldBeginsPinLaw" = some m.cls := findClass_of_methodNamed Bd.named
  have hnm := (name_of_methodNamed Bd.named Bd.method).1
  have X0 : Stand p l e ({ frames := 0, cells := 0, slots := 0, locals := 0 } : Room) s m #[(.int p0)] below meth c s₁ [] 0 0 := Stand.of_body Bd
  have e0 : s₁.heap = h0 := by rw [← hh, Bd.state]; rfl
  have N0 := Fr.nil n0
  have K0 : Keep h0 h0 [] := Keep.refl h0 _
  show Runs p e below (QE s (Q_rm12 Z p0 h0 n0) ({ frames := 0, cells := 0, slots := 0, locals := 0 } : Room).cells ({ frames := 0, cells := 0, slots := 0, locals := 0 } : Room).slots) (s₁.setTop (entryFrame m #[(.int p0)] 1))
  rw [ef_12_6 m p0]
  refine Runs.by (fun _ hr => XS.iloadN X0.here hx rfl (hb hby d12_0) rfl  hr) ?_
  refine Runs.by (fun _ hr => XS.bipush X0.here hx rfl (hb hby d12_1) hr) ?_
  show Runs p e below _ (s₁.setTop (mkF m 3 #[.val (.int p0)] [(.int (32 : Int32)), (.int p0)]))
  by_cases hc3 : p0 = (32 : Int32)
  · -- pc 3: p0 = (32 : Int32)
    refine Runs.by (fun _ hr => XS.icmpYes X0.here hx rfl (pc0 := 3) (pc' := 12) rfl (hb hby d12_3) rfl (teq hc3).1 (by decide) (by decide) hr) ?_
    refine Runs.by (fun _ hr => XS.iconst X0.here hx rfl (hb hby d12_12) hr) ?_
    refine Runs.by (fun _ hr => XS.goto X0.here hx rfl (pc0 := 13) (pc' := 17) rfl (hb hby d12_13) (by decide) (by decide) hr) ?_
    show Runs p e below _ (s₁.setTop (mkF m 17 #[.val (.int p0)] [(.int (1 : Int32))]))
    refine Runs.ret X0 hx hrt hlk (Or.inl ⟨rfl, by simp, _, rfl⟩) (by rfl) (hb hby d12_17) (by decide) (by decide) ?_
    rw [e0]
    exact ⟨by rw [own_ws, if_pos hc3], N0, rfl⟩
  · -- pc 3: not p0 = (32 : Int32)
    refine Runs.by (fun _ hr => XS.icmpNo X0.here hx rfl (hb hby d12_3) rfl (feq hc3).1 hr) ?_
    refine Runs.by (fun _ hr => XS.iloadN X0.here hx rfl (hb hby d12_6) rfl  hr) ?_
    refine Runs.by (fun _ hr => XS.bipush X0.here hx rfl (hb hby d12_7) hr) ?_
    show Runs p e below _ (s₁.setTop (mkF m 9 #[.val (.int p0)] [(.int (9 : Int32)), (.int p0)]))
    by_cases hc9 : p0 = (9 : Int32)
    · -- pc 9: p0 = (9 : Int32)
      refine Runs.by (fun _ hr => XS.icmpNo X0.here hx rfl (hb hby d12_9) rfl (teq hc9).2 hr) ?_
      refine Runs.by (fun _ hr => XS.iconst X0.here hx rfl (hb hby d12_12) hr) ?_
      refine Runs.by (fun _ hr => XS.goto X0.here hx rfl (pc0 := 13) (pc' := 17) rfl (hb hby d12_13) (by decide) (by decide) hr) ?_
      show Runs p e below _ (s₁.setTop (mkF m 17 #[.val (.int p0)] [(.int (1 : Int32))]))
      refine Runs.ret X0 hx hrt hlk (Or.inl ⟨rfl, by simp, _, rfl⟩) (by rfl) (hb hby d12_17) (by decide) (by decide) ?_
      rw [e0]
      exact ⟨by rw [own_ws, if_neg hc3, if_pos hc9], N0, rfl⟩
    · -- pc 9: not p0 = (9 : Int32)
      refine Runs.by (fun _ hr => XS.icmpYes X0.here hx rfl (pc0 := 9) (pc' := 16) rfl (hb hby d12_9) rfl (feq hc9).2 (by decide) (by decide) hr) ?_
      refine Runs.by (fun _ hr => XS.iconst X0.here hx rfl (hb hby d12_16) hr) ?_
      show Runs p e below _ (s₁.setTop (mkF m 17 #[.val (.int p0)] [(.int (0 : Int32))]))
      refine Runs.ret X0 hx hrt hlk (Or.inl ⟨rfl, by simp, _, rfl⟩) (by rfl) (hb hby d12_17) (by decide) (by decide) ?_
      rw [e0]
      exact ⟨by rw [own_ws, if_neg hc3, if_neg hc9], N0, rfl⟩
theorem d7_0 : decode method_4_code 0 = .ok (.iload_n 0, 1) := by decide +kernel
theorem d7_1 : decode method_4_code 1 = .ok (.iconst 3, 1) := by decide +kernel
theorem d7_2 : decode method_4_code 2 = .ok (.iand, 1) := by decide +kernel
theorem d7_3 : decode method_4_code 3 = .ok (.istore_n 2, 1) := by decide +kernel
theorem d7_4 : decode method_4_code 4 = .ok (.iload_n 2, 1) := by decide +kernel
theorem d7_5 : decode method_4_code 5 = .ok (.ifCond .ne 6, 3) := by decide +kernel
theorem d7_8 : decode method_4_code 8 = .ok (.bipush 32, 2) := by decide +kernel
theorem d7_10 : decode method_4_code 10 = .ok (.ireturn, 1) := by decide +kernel
theorem d7_11 : decode method_4_code 11 = .ok (.iload_n 2, 1) := by decide +kernel
theorem d7_12 : decode method_4_code 12 = .ok (.iconst 1, 1) := by decide +kernel
theorem d7_13 : decode method_4_code 13 = .ok (.if_icmp .ne 6, 3) := by decide +kernel
theorem d7_16 : decode method_4_code 16 = .ok (.bipush 9, 2) := by decide +kernel
theorem d7_18 : decode method_4_code 18 = .ok (.ireturn, 1) := by decide +kernel
theorem d7_19 : decode method_4_code 19 = .ok (.iload_n 2, 1) := by decide +kernel
theorem d7_20 : decode method_4_code 20 = .ok (.iconst 2, 1) := by decide +kernel
theorem d7_21 : decode method_4_code 21 = .ok (.if_icmp .ne 6, 3) := by decide +kernel
theorem d7_24 : decode method_4_code 24 = .ok (.bipush 58, 2) := by decide +kernel
theorem d7_26 : decode method_4_code 26 = .ok (.ireturn, 1) := by decide +kernel
theorem d7_27 : decode method_4_code 27 = .ok (.iload_n 1, 1) := by decide +kernel
theorem d7_28 : decode method_4_code 28 = .ok (.ireturn, 1) := by decide +kernel
theorem ef_7_7 (m : MethodId) (p0 : Int32) (p1 : Int32) : entryFrame m #[(.int p0), (.int p1)] 3 = mkF m 0 #[.val (.int p0), .val (.int p1), .unset] [] := by first | (simp [entryFrame, mkF, argsToLocals, Value.category]; done) | rfl
def Q_rm7 (Z : State) (p0 : Int32) (p1 : Int32)  (h0 : Heap) (n0 : Nat) (v : Option Value) (h : Heap) (L : List Loc) : Prop := v = some (.int (own_sf p0 p1)) ∧ Fr n0 L ∧ h = h0
set_option maxRecDepth 65536 in
set_option maxHeartbeats 40000000 in
theorem rm7 (l : Launch) (Z : State) (a0 : Array Value) (hw : ∀ d ∈ tables_1, d.before a0 Z = true) (ws : List Jvm.Cond) (p0 : Int32) (p1 : Int32)  (h0 : Heap) (n0 : Nat) (Z0 : n0 ≤ h0.size) (h8 : p1.toInt8.toInt32 = p1) :
    MetFree l (⟨"com/example/word_odds/wordodds/filter/VerdictFieldBeginsPinLaw", "suffixByte", "(IB)B"⟩ : MethodName) (head1 (Jvm.Cond.code (⟨"com/example/word_odds/wordodds/filter/VerdictFieldBeginsPinLaw", "suffixByte", "(IB)B"⟩ : MethodName) method_4_code 3 (some .byte) :: ws) ({ frames := 0, cells := 0, slots := 0, locals := 0 } : Room)) (fun a U => a = #[(.int p0), (.int p1)] ∧ Z.Warmed39 U.vm ∧ U.heap = h0) (fun _ _ _ _ _ => True) (fun _ U o U' => ∃ v L, o = .returned v ∧ Q_rm7 Z p0 p1 h0 n0 v U'.heap L ∧ FrameEnd U o U' L ({ frames := 0, cells := 0, slots := 0, locals := 0 } : Room).cells ({ frames := 0, cells := 0, slots := 0, locals := 0 } : Room).slots) := by
  refine MetFree.of_bodySF (plainFor_of_name pn_com_example_word_odds_wordodds_filter_VerdictFieldBeginsPinLaw) hisR ?_
  intro p e s m args below meth c s₁ Bd hml0 hP hK
  obtain ⟨rfl, hZ, hh⟩ := hP
  have hx := Bd.exec
  have hby := Bd.bytes
  have hlk := BodyLoose.notSynchronized Bd
  have hrt := Bd.returns
  have hml : c.maxLocals = 3 := hml0
  have hown : s.vm.findClass "com/example/word_odds/wordodds/filter/VerdictFieldBeginsPinLaw" = some m.cls := findClass_of_methodNamed Bd.named
  have hnm := (name_of_methodNamed Bd.named Bd.method).1
  have X0 : Stand p l e ({ frames := 0, cells := 0, slots := 0, locals := 0 } : Room) s m #[(.int p0), (.int p1)] below meth c s₁ [] 0 0 := Stand.of_body Bd
  have e0 : s₁.heap = h0 := by rw [← hh, Bd.state]; rfl
  have N0 := Fr.nil n0
  have K0 : Keep h0 h0 [] := Keep.refl h0 _
  show Runs p e below (QE s (Q_rm7 Z p0 p1 h0 n0) ({ frames := 0, cells := 0, slots := 0, locals := 0 } : Room).cells ({ frames := 0, cells := 0, slots := 0, locals := 0 } : Room).slots) (s₁.setTop (entryFrame m #[(.int p0), (.int p1)] 3))
  rw [ef_7_7 m p0 p1]
  refine Runs.by (fun _ hr => XS.iloadN X0.here hx rfl (hb hby d7_0) rfl  hr) ?_
  refine Runs.by (fun _ hr => XS.iconst X0.here hx rfl (hb hby d7_1) hr) ?_
  show Runs p e below _ (s₁.setTop (mkF m 2 #[.val (.int p0), .val (.int p1), .unset] [(.int (3 : Int32)), (.int p0)]))
  refine Runs.by (fun _ hr => XS.iand X0.here hx rfl (hb hby d7_2) rfl hr) ?_
  refine Runs.by (fun _ hr => XS.istoreN X0.here hx rfl (hb hby d7_3) rfl (l' := #[.val (.int p0), .val (.int p1), .val (.int (p0 &&& (3 : Int32)))]) rfl hr) ?_
  refine Runs.by (fun _ hr => XS.iloadN X0.here hx rfl (hb hby d7_4) rfl  hr) ?_
  show Runs p e below _ (s₁.setTop (mkF m 5 #[.val (.int p0), .val (.int p1), .val (.int (p0 &&& (3 : Int32)))] [(.int (p0 &&& (3 : Int32)))]))
  by_cases hc5 : (p0 &&& (3 : Int32)) = (0 : Int32)
  · -- pc 5: (p0 &&& (3 : Int32)) = (0 : Int32)
    refine Runs.by (fun _ hr => XS.ifNo X0.here hx rfl (hb hby d7_5) rfl ((if0 _ _).trans (teq hc5).2) hr) ?_
    refine Runs.by (fun _ hr => XS.bipush X0.here hx rfl (hb hby d7_8) hr) ?_
    show Runs p e below _ (s₁.setTop (mkF m 10 #[.val (.int p0), .val (.int p1), .val (.int (p0 &&& (3 : Int32)))] [(.int (32 : Int32))]))
    refine Runs.ret X0 hx hrt hlk (Or.inl ⟨rfl, by simp, _, rfl⟩) (by rfl) (hb hby d7_10) (by decide) (by decide) ?_
    rw [e0]
    exact ⟨by rw [own_sf, if_pos hc5], N0, rfl⟩
  · -- pc 5: not (p0 &&& (3 : Int32)) = (0 : Int32)
    refine Runs.by (fun _ hr => XS.ifYes X0.here hx rfl (pc0 := 5) (pc' := 11) rfl (hb hby d7_5) rfl ((if0 _ _).trans (feq hc5).2) (by decide) (by decide) hr) ?_
    refine Runs.by (fun _ hr => XS.iloadN X0.here hx rfl (hb hby d7_11) rfl  hr) ?_
    refine Runs.by (fun _ hr => XS.iconst X0.here hx rfl (hb hby d7_12) hr) ?_
    show Runs p e below _ (s₁.setTop (mkF m 13 #[.val (.int p0), .val (.int p1), .val (.int (p0 &&& (3 : Int32)))] [(.int (1 : Int32)), (.int (p0 &&& (3 : Int32)))]))
    by_cases hc13 : (p0 &&& (3 : Int32)) = (1 : Int32)
    · -- pc 13: (p0 &&& (3 : Int32)) = (1 : Int32)
      refine Runs.by (fun _ hr => XS.icmpNo X0.here hx rfl (hb hby d7_13) rfl (teq hc13).2 hr) ?_
      refine Runs.by (fun _ hr => XS.bipush X0.here hx rfl (hb hby d7_16) hr) ?_
      show Runs p e below _ (s₁.setTop (mkF m 18 #[.val (.int p0), .val (.int p1), .val (.int (p0 &&& (3 : Int32)))] [(.int (9 : Int32))]))
      refine Runs.ret X0 hx hrt hlk (Or.inl ⟨rfl, by simp, _, rfl⟩) (by rfl) (hb hby d7_18) (by decide) (by decide) ?_
      rw [e0]
      exact ⟨by rw [own_sf, if_neg hc5, if_pos hc13], N0, rfl⟩
    · -- pc 13: not (p0 &&& (3 : Int32)) = (1 : Int32)
      refine Runs.by (fun _ hr => XS.icmpYes X0.here hx rfl (pc0 := 13) (pc' := 19) rfl (hb hby d7_13) rfl (feq hc13).2 (by decide) (by decide) hr) ?_
      refine Runs.by (fun _ hr => XS.iloadN X0.here hx rfl (hb hby d7_19) rfl  hr) ?_
      refine Runs.by (fun _ hr => XS.iconst X0.here hx rfl (hb hby d7_20) hr) ?_
      show Runs p e below _ (s₁.setTop (mkF m 21 #[.val (.int p0), .val (.int p1), .val (.int (p0 &&& (3 : Int32)))] [(.int (2 : Int32)), (.int (p0 &&& (3 : Int32)))]))
      by_cases hc21 : (p0 &&& (3 : Int32)) = (2 : Int32)
      · -- pc 21: (p0 &&& (3 : Int32)) = (2 : Int32)
        refine Runs.by (fun _ hr => XS.icmpNo X0.here hx rfl (hb hby d7_21) rfl (teq hc21).2 hr) ?_
        refine Runs.by (fun _ hr => XS.bipush X0.here hx rfl (hb hby d7_24) hr) ?_
        show Runs p e below _ (s₁.setTop (mkF m 26 #[.val (.int p0), .val (.int p1), .val (.int (p0 &&& (3 : Int32)))] [(.int (58 : Int32))]))
        refine Runs.ret X0 hx hrt hlk (Or.inl ⟨rfl, by simp, _, rfl⟩) (by rfl) (hb hby d7_26) (by decide) (by decide) ?_
        rw [e0]
        exact ⟨by rw [own_sf, if_neg hc5, if_neg hc13, if_pos hc21], N0, rfl⟩
      · -- pc 21: not (p0 &&& (3 : Int32)) = (2 : Int32)
        refine Runs.by (fun _ hr => XS.icmpYes X0.here hx rfl (pc0 := 21) (pc' := 27) rfl (hb hby d7_21) rfl (feq hc21).2 (by decide) (by decide) hr) ?_
        refine Runs.by (fun _ hr => XS.iloadN X0.here hx rfl (hb hby d7_27) rfl  hr) ?_
        show Runs p e below _ (s₁.setTop (mkF m 28 #[.val (.int p0), .val (.int p1), .val (.int (p0 &&& (3 : Int32)))] [(.int p1)]))
        refine Runs.ret X0 hx hrt hlk (Or.inl ⟨rfl, by simp, _, rfl⟩) (own_nb h8) (hb hby d7_28) (by decide) (by decide) ?_
        rw [e0]
        exact ⟨by rw [own_sf, if_neg hc5, if_neg hc13, if_neg hc21], N0, rfl⟩
theorem d9_0 : decode jdk_29_method_69_code 0 = .ok (.iload_n 0, 1) := by decide +kernel
theorem d9_1 : decode jdk_29_method_69_code 1 = .ok (.iload_n 1, 1) := by decide +kernel
theorem d9_2 : decode jdk_29_method_69_code 2 = .ok (.if_icmp .gt 7, 3) := by decide +kernel
theorem d9_5 : decode jdk_29_method_69_code 5 = .ok (.iload_n 0, 1) := by decide +kernel
theorem d9_6 : decode jdk_29_method_69_code 6 = .ok (.goto 4, 3) := by decide +kernel
theorem d9_9 : decode jdk_29_method_69_code 9 = .ok (.iload_n 1, 1) := by decide +kernel
theorem d9_10 : decode jdk_29_method_69_code 10 = .ok (.ireturn, 1) := by decide +kernel
theorem ef_9_8 (m : MethodId) (p0 : Int32) (p1 : Int32) : entryFrame m #[(.int p0), (.int p1)] 2 = mkF m 0 #[.val (.int p0), .val (.int p1)] [] := by first | (simp [entryFrame, mkF, argsToLocals, Value.category]; done) | rfl
def Q_rm9 (Z : State) (p0 : Int32) (p1 : Int32)  (h0 : Heap) (n0 : Nat) (v : Option Value) (h : Heap) (L : List Loc) : Prop := v = some (.int (own_mn p0 p1)) ∧ Fr n0 L ∧ h = h0
set_option maxRecDepth 65536 in
set_option maxHeartbeats 40000000 in
theorem rm9 (l : Launch) (Z : State) (a0 : Array Value) (hw : ∀ d ∈ tables_1, d.before a0 Z = true) (ws : List Jvm.Cond) (p0 : Int32) (p1 : Int32)  (h0 : Heap) (n0 : Nat) (Z0 : n0 ≤ h0.size) :
    MetFree l (⟨"java/lang/Math", "min", "(II)I"⟩ : MethodName) (head1 (Jvm.Cond.code (⟨"java/lang/Math", "min", "(II)I"⟩ : MethodName) jdk_29_method_69_code 2 (some .int) :: ws) ({ frames := 0, cells := 0, slots := 0, locals := 0 } : Room)) (fun a U => a = #[(.int p0), (.int p1)] ∧ Z.Warmed39 U.vm ∧ U.heap = h0) (fun _ _ _ _ _ => True) (fun _ U o U' => ∃ v L, o = .returned v ∧ Q_rm9 Z p0 p1 h0 n0 v U'.heap L ∧ FrameEnd U o U' L ({ frames := 0, cells := 0, slots := 0, locals := 0 } : Room).cells ({ frames := 0, cells := 0, slots := 0, locals := 0 } : Room).slots) := by
  refine MetFree.of_bodySF (Jvm.Free.JP.mathPlain rfl (by decide +kernel)) hisR ?_
  intro p e s m args below meth c s₁ Bd hml0 hP hK
  obtain ⟨rfl, hZ, hh⟩ := hP
  have hx := Bd.exec
  have hby := Bd.bytes
  have hlk := BodyLoose.notSynchronized Bd
  have hrt := Bd.returns
  have hml : c.maxLocals = 2 := hml0
  have hown : s.vm.findClass "java/lang/Math" = some m.cls := findClass_of_methodNamed Bd.named
  have hnm := (name_of_methodNamed Bd.named Bd.method).1
  have X0 : Stand p l e ({ frames := 0, cells := 0, slots := 0, locals := 0 } : Room) s m #[(.int p0), (.int p1)] below meth c s₁ [] 0 0 := Stand.of_body Bd
  have e0 : s₁.heap = h0 := by rw [← hh, Bd.state]; rfl
  have N0 := Fr.nil n0
  have K0 : Keep h0 h0 [] := Keep.refl h0 _
  show Runs p e below (QE s (Q_rm9 Z p0 p1 h0 n0) ({ frames := 0, cells := 0, slots := 0, locals := 0 } : Room).cells ({ frames := 0, cells := 0, slots := 0, locals := 0 } : Room).slots) (s₁.setTop (entryFrame m #[(.int p0), (.int p1)] 2))
  rw [ef_9_8 m p0 p1]
  refine Runs.by (fun _ hr => XS.iloadN X0.here hx rfl (hb hby d9_0) rfl  hr) ?_
  refine Runs.by (fun _ hr => XS.iloadN X0.here hx rfl (hb hby d9_1) rfl  hr) ?_
  show Runs p e below _ (s₁.setTop (mkF m 2 #[.val (.int p0), .val (.int p1)] [(.int p1), (.int p0)]))
  by_cases hc2 : p1 < p0
  · -- pc 2: p1 < p0
    refine Runs.by (fun _ hr => XS.icmpYes X0.here hx rfl (pc0 := 2) (pc' := 9) rfl (hb hby d9_2) rfl (tlt hc2).2.2.1 (by decide) (by decide) hr) ?_
    refine Runs.by (fun _ hr => XS.iloadN X0.here hx rfl (hb hby d9_9) rfl  hr) ?_
    show Runs p e below _ (s₁.setTop (mkF m 10 #[.val (.int p0), .val (.int p1)] [(.int p1)]))
    refine Runs.ret X0 hx hrt hlk (Or.inl ⟨rfl, by simp, _, rfl⟩) rfl (hb hby d9_10) (by decide) (by decide) ?_
    rw [e0]
    exact ⟨by rw [own_mn, if_pos hc2], N0, rfl⟩
  · -- pc 2: not p1 < p0
    refine Runs.by (fun _ hr => XS.icmpNo X0.here hx rfl (hb hby d9_2) rfl (flt hc2).2.2.1 hr) ?_
    refine Runs.by (fun _ hr => XS.iloadN X0.here hx rfl (hb hby d9_5) rfl  hr) ?_
    refine Runs.by (fun _ hr => XS.goto X0.here hx rfl (pc0 := 6) (pc' := 10) rfl (hb hby d9_6) (by decide) (by decide) hr) ?_
    show Runs p e below _ (s₁.setTop (mkF m 10 #[.val (.int p0), .val (.int p1)] [(.int p0)]))
    refine Runs.ret X0 hx hrt hlk (Or.inl ⟨rfl, by simp, _, rfl⟩) rfl (hb hby d9_10) (by decide) (by decide) ?_
    rw [e0]
    exact ⟨by rw [own_mn, if_neg hc2], N0, rfl⟩
theorem d10_0 : decode jdk_29_method_70_code 0 = .ok (.lload_n 0, 1) := by decide +kernel
theorem d10_1 : decode jdk_29_method_70_code 1 = .ok (.lload_n 2, 1) := by decide +kernel
theorem d10_2 : decode jdk_29_method_70_code 2 = .ok (.lcmp, 1) := by decide +kernel
theorem d10_3 : decode jdk_29_method_70_code 3 = .ok (.ifCond .gt 7, 3) := by decide +kernel
theorem d10_6 : decode jdk_29_method_70_code 6 = .ok (.lload_n 0, 1) := by decide +kernel
theorem d10_7 : decode jdk_29_method_70_code 7 = .ok (.goto 4, 3) := by decide +kernel
theorem d10_10 : decode jdk_29_method_70_code 10 = .ok (.lload_n 2, 1) := by decide +kernel
theorem d10_11 : decode jdk_29_method_70_code 11 = .ok (.lreturn, 1) := by decide +kernel
theorem ef_10_9 (m : MethodId) (q0 : Int64) (q1 : Int64) : entryFrame m #[(.long q0), (.long q1)] 4 = mkF m 0 #[.val (.long q0), .second, .val (.long q1), .second] [] := by first | (simp [entryFrame, mkF, argsToLocals, Value.category]; done) | rfl
def Q_rm10 (Z : State) (q0 : Int64) (q1 : Int64)  (h0 : Heap) (n0 : Nat) (v : Option Value) (h : Heap) (L : List Loc) : Prop := v = some (.long (own_mnJ q0 q1)) ∧ Fr n0 L ∧ h = h0
set_option maxRecDepth 65536 in
set_option maxHeartbeats 40000000 in
theorem rm10 (l : Launch) (Z : State) (a0 : Array Value) (hw : ∀ d ∈ tables_1, d.before a0 Z = true) (ws : List Jvm.Cond) (q0 : Int64) (q1 : Int64)  (h0 : Heap) (n0 : Nat) (Z0 : n0 ≤ h0.size) :
    MetFree l (⟨"java/lang/Math", "min", "(JJ)J"⟩ : MethodName) (head1 (Jvm.Cond.code (⟨"java/lang/Math", "min", "(JJ)J"⟩ : MethodName) jdk_29_method_70_code 4 (some .long) :: ws) ({ frames := 0, cells := 0, slots := 0, locals := 0 } : Room)) (fun a U => a = #[(.long q0), (.long q1)] ∧ Z.Warmed39 U.vm ∧ U.heap = h0) (fun _ _ _ _ _ => True) (fun _ U o U' => ∃ v L, o = .returned v ∧ Q_rm10 Z q0 q1 h0 n0 v U'.heap L ∧ FrameEnd U o U' L ({ frames := 0, cells := 0, slots := 0, locals := 0 } : Room).cells ({ frames := 0, cells := 0, slots := 0, locals := 0 } : Room).slots) := by
  refine MetFree.of_bodySF (Jvm.Free.JP.mathPlain rfl (by decide +kernel)) hisR ?_
  intro p e s m args below meth c s₁ Bd hml0 hP hK
  obtain ⟨rfl, hZ, hh⟩ := hP
  have hx := Bd.exec
  have hby := Bd.bytes
  have hlk := BodyLoose.notSynchronized Bd
  have hrt := Bd.returns
  have hml : c.maxLocals = 4 := hml0
  have hown : s.vm.findClass "java/lang/Math" = some m.cls := findClass_of_methodNamed Bd.named
  have hnm := (name_of_methodNamed Bd.named Bd.method).1
  have X0 : Stand p l e ({ frames := 0, cells := 0, slots := 0, locals := 0 } : Room) s m #[(.long q0), (.long q1)] below meth c s₁ [] 0 0 := Stand.of_body Bd
  have e0 : s₁.heap = h0 := by rw [← hh, Bd.state]; rfl
  have N0 := Fr.nil n0
  have K0 : Keep h0 h0 [] := Keep.refl h0 _
  show Runs p e below (QE s (Q_rm10 Z q0 q1 h0 n0) ({ frames := 0, cells := 0, slots := 0, locals := 0 } : Room).cells ({ frames := 0, cells := 0, slots := 0, locals := 0 } : Room).slots) (s₁.setTop (entryFrame m #[(.long q0), (.long q1)] 4))
  rw [ef_10_9 m q0 q1]
  refine Runs.by (fun _ hr => XS.lloadN X0.here hx rfl (hb hby d10_0) rfl  hr) ?_
  refine Runs.by (fun _ hr => XS.lloadN X0.here hx rfl (hb hby d10_1) rfl  hr) ?_
  show Runs p e below _ (s₁.setTop (mkF m 2 #[.val (.long q0), .second, .val (.long q1), .second] [(.long q1), (.long q0)]))
  refine Runs.by (fun _ hr => XS.lcmp X0.here hx rfl (hb hby d10_2) rfl hr) ?_
  by_cases hc3 : (0 : Int32) < (lcmpW q0 q1)
  · -- pc 3: (0 : Int32) < (lcmpW q0 q1)
    refine Runs.by (fun _ hr => XS.ifYes X0.here hx rfl (pc0 := 3) (pc' := 10) rfl (hb hby d10_3) rfl ((if0 _ _).trans (tlt hc3).2.2.1) (by decide) (by decide) hr) ?_
    refine Runs.by (fun _ hr => XS.lloadN X0.here hx rfl (hb hby d10_10) rfl  hr) ?_
    show Runs p e below _ (s₁.setTop (mkF m 11 #[.val (.long q0), .second, .val (.long q1), .second] [(.long q1)]))
    refine Runs.ret X0 hx hrt hlk (Or.inr (Or.inl ⟨rfl, rfl, _, rfl⟩)) rfl (hb hby d10_11) (by decide) (by decide) ?_
    rw [e0]
    exact ⟨by rw [own_mnJ, if_pos hc3], N0, rfl⟩
  · -- pc 3: not (0 : Int32) < (lcmpW q0 q1)
    refine Runs.by (fun _ hr => XS.ifNo X0.here hx rfl (hb hby d10_3) rfl ((if0 _ _).trans (flt hc3).2.2.1) hr) ?_
    refine Runs.by (fun _ hr => XS.lloadN X0.here hx rfl (hb hby d10_6) rfl  hr) ?_
    show Runs p e below _ (s₁.setTop (mkF m 7 #[.val (.long q0), .second, .val (.long q1), .second] [(.long q0)]))
    refine Runs.by (fun _ hr => XS.goto X0.here hx rfl (pc0 := 7) (pc' := 11) rfl (hb hby d10_7) (by decide) (by decide) hr) ?_
    show Runs p e below _ (s₁.setTop (mkF m 11 #[.val (.long q0), .second, .val (.long q1), .second] [(.long q0)]))
    refine Runs.ret X0 hx hrt hlk (Or.inr (Or.inl ⟨rfl, rfl, _, rfl⟩)) rfl (hb hby d10_11) (by decide) (by decide) ?_
    rw [e0]
    exact ⟨by rw [own_mnJ, if_neg hc3], N0, rfl⟩
theorem d1_0 : decode method_3_code 0 = .ok (.iload_n 1, 1) := by decide +kernel
theorem d1_1 : decode method_3_code 1 = .ok (.iload_n 0, 1) := by decide +kernel
theorem d1_2 : decode method_3_code 2 = .ok (.ishr, 1) := by decide +kernel
theorem d1_3 : decode method_3_code 3 = .ok (.iconst 1, 1) := by decide +kernel
theorem d1_4 : decode method_3_code 4 = .ok (.iand, 1) := by decide +kernel
theorem d1_5 : decode method_3_code 5 = .ok (.ifCond .eq 8, 3) := by decide +kernel
theorem d1_8 : decode method_3_code 8 = .ok (.ldc 32, 2) := by decide +kernel
theorem d1_10 : decode method_3_code 10 = .ok (.goto 5, 3) := by decide +kernel
theorem d1_13 : decode method_3_code 13 = .ok (.ldc 24, 2) := by decide +kernel
theorem d1_15 : decode method_3_code 15 = .ok (.astore_n 2, 1) := by decide +kernel
theorem d1_16 : decode method_3_code 16 = .ok (.aload_n 2, 1) := by decide +kernel
theorem d1_17 : decode method_3_code 17 = .ok (.iload_n 0, 1) := by decide +kernel
theorem d1_18 : decode method_3_code 18 = .ok (.invokevirtual 26, 3) := by decide +kernel
theorem d1_21 : decode method_3_code 21 = .ok (.i2b, 1) := by decide +kernel
theorem d1_22 : decode method_3_code 22 = .ok (.ireturn, 1) := by decide +kernel
theorem ef_1_10 (m : MethodId) (p0 : Int32) (p1 : Int32) : entryFrame m #[(.int p0), (.int p1)] 3 = mkF m 0 #[.val (.int p0), .val (.int p1), .unset] [] := by first | (simp [entryFrame, mkF, argsToLocals, Value.category]; done) | rfl
def Q_rm1_24c (Z : State) (p0 : Int32) (p1 : Int32) (gC : Int32) (vG : Value) (bb cc : Int32) (ln : Addr) (kl : ClassId) (wl : Nat → Int32) (h0 : Heap) (n0 : Nat) (v : Option Value) (h : Heap) (L : List Loc) (vm : Vm) : Prop := v = some (.int cc) ∧ Fr n0 L ∧ Keep h0 h [] ∧ own_LS Z vm h ln "com/example/word_odds/wordodds/filter/VerdictFieldBeginsPinLaw" 24 (11 : Int32) [(.int (120 : Int32)), (.int (45 : Int32)), (.int (119 : Int32)), (.int (111 : Int32)), (.int (114 : Int32)), (.int (100 : Int32)), (.int (45 : Int32)), (.int (111 : Int32)), (.int (100 : Int32)), (.int (100 : Int32)), (.int (115 : Int32))]
theorem pd_4 : parseMethodDescriptor "(I)C" = some ⟨[.int], some .char⟩ := by decide +kernel
set_option maxRecDepth 65536 in
set_option maxHeartbeats 40000000 in
theorem rm1_24c (l : Launch) (Z : State) (a0 : Array Value) (hw : ∀ d ∈ tables_1, d.before a0 Z = true) (ws : List Jvm.Cond) (p0 : Int32) (p1 : Int32) (gC : Int32) (vG : Value) (bb cc : Int32) (ln : Addr) (kl : ClassId) (wl : Nat → Int32) (h0 : Heap) (n0 : Nat) (Z0 : n0 ≤ h0.size) (SC : Sta Z h0 "java/lang/String" "COMPACT_STRINGS" "Z" (.int gC)) (cC : ¬ (gC = (0 : Int32))) (hvG : vG.isRef = true) (SG : Sta Z h0 "jdk/internal/util/Preconditions" "SIOOBE_FORMATTER" "Ljava/util/function/BiFunction;" vG) (hbit : ((p1 >>> (p0 &&& 31)) &&& (1 : Int32)) = (0 : Int32)) (hin : ¬ (p0 < 0) ∧ p0 < (11 : Int32)) (hat : ([(.int (120 : Int32)), (.int (45 : Int32)), (.int (119 : Int32)), (.int (111 : Int32)), (.int (114 : Int32)), (.int (100 : Int32)), (.int (45 : Int32)), (.int (111 : Int32)), (.int (100 : Int32)), (.int (100 : Int32)), (.int (115 : Int32))] : List Value).getD p0.toNatClampNeg (.int 0) = .int bb) (hcc : ((bb &&& (255 : Int32)).toUInt32.toUInt16.toUInt32.toInt32) = cc) (h8 : cc.toInt8.toInt32 = cc) (GL : Arf Z h0 ln kl .byte (24 : Int32) (fun j_ => .int (wl j_))) (hEL : EW Z a0 consts_1) :
    MetFree l (⟨"com/example/word_odds/wordodds/filter/VerdictFieldBeginsPinLaw", "nameByte", "(II)B"⟩ : MethodName) (head1 (Jvm.Cond.code (⟨"com/example/word_odds/wordodds/filter/VerdictFieldBeginsPinLaw", "nameByte", "(II)B"⟩ : MethodName) method_3_code 3 (some .byte) :: ws) ({ frames := 4, cells := 2, slots := 48, locals := 60 } : Room)) (fun a U => a = #[(.int p0), (.int p1)] ∧ Z.Warmed39 U.vm ∧ U.heap = h0 ∧ CHv Z consts_1 U.vm h0 ∧ Safe Z consts_1 U.vm h0 ln ∧ True) (fun _ _ _ _ _ => True) (fun _ U o U' => ∃ v L, o = .returned v ∧ Q_rm1_24c Z p0 p1 gC vG bb cc ln kl wl h0 n0 v U'.heap L U'.vm ∧ CHr Z consts_1 U.vm U.heap U'.vm U'.heap ∧ ReturnedEndW U o U' L ({ frames := 4, cells := 2, slots := 48, locals := 60 } : Room).cells ({ frames := 4, cells := 2, slots := 48, locals := 60 } : Room).slots) := by
  refine MetFree.of_bodySF (plainFor_of_name pn_com_example_word_odds_wordodds_filter_VerdictFieldBeginsPinLaw) hisR ?_
  intro p e s m args below meth c s₁ Bd hml0 hP hK
  obtain ⟨rfl, hZ, hh, hCv, Sf_ln, hPX⟩ := hP
  have hx := Bd.exec
  have hby := Bd.bytes
  have hlk := BodyLoose.notSynchronized Bd
  have hrt := Bd.returns
  have hml : c.maxLocals = 3 := hml0
  have hown : s.vm.findClass "com/example/word_odds/wordodds/filter/VerdictFieldBeginsPinLaw" = some m.cls := findClass_of_methodNamed Bd.named
  have hnm := (name_of_methodNamed Bd.named Bd.method).1
  have X0 : Stand p l e ({ frames := 4, cells := 2, slots := 48, locals := 60 } : Room) (s.setVm s.vm) m #[(.int p0), (.int p1)] below meth c s₁ [] 0 0 := Stand.of_body Bd
  have e0 : s₁.heap = h0 := by rw [← hh, Bd.state]; rfl
  have N0 := Fr.nil n0
  have K0 : Keep h0 h0 [] := Keep.refl h0 _
  have hC : CHr Z consts_1 s.vm s.heap s.vm h0 := by rw [hh]; exact CHr.refl hCv
  have hS : s.Since s.vm h0.size := (State.WarmedH.refl s).since _
  have hk : h0.size ≤ h0.size := Nat.le_refl _
  show Runs p e below (QEX Z consts_1 s (Q_rm1_24c Z p0 p1 gC vG bb cc ln kl wl h0 n0) ({ frames := 4, cells := 2, slots := 48, locals := 60 } : Room).cells ({ frames := 4, cells := 2, slots := 48, locals := 60 } : Room).slots) (s₁.setTop (entryFrame m #[(.int p0), (.int p1)] 3))
  rw [ef_1_10 m p0 p1]
  have wS : ∀ a ∈ Bundle.stringAtoms, a.before a0 Z = true := fun d hd => hw d ((by decide +kernel : ∀ d ∈ Bundle.stringAtoms, d ∈ tables_1) d hd)
  refine Runs.by (fun _ hr => XS.iloadN X0.here hx rfl (hb hby d1_0) rfl  hr) ?_
  refine Runs.by (fun _ hr => XS.iloadN X0.here hx rfl (hb hby d1_1) rfl  hr) ?_
  show Runs p e below _ (s₁.setTop (mkF m 2 #[.val (.int p0), .val (.int p1), .unset] [(.int p0), (.int p1)]))
  refine Runs.by (fun _ hr => XS.ishr X0.here hx rfl (hb hby d1_2) rfl hr) ?_
  refine Runs.by (fun _ hr => XS.iconst X0.here hx rfl (hb hby d1_3) hr) ?_
  show Runs p e below _ (s₁.setTop (mkF m 4 #[.val (.int p0), .val (.int p1), .unset] [(.int (1 : Int32)), (.int (p1 >>> (p0 &&& 31)))]))
  refine Runs.by (fun _ hr => XS.iand X0.here hx rfl (hb hby d1_4) rfl hr) ?_
  have hc5 : ((p1 >>> (p0 &&& 31)) &&& (1 : Int32)) = (0 : Int32) := hbit
  refine Runs.by (fun _ hr => XS.ifYes X0.here hx rfl (pc0 := 5) (pc' := 13) rfl (hb hby d1_5) rfl ((if0 _ _).trans (teq hc5).1) (by decide) (by decide) hr) ?_
  show Runs p e below _ (s₁.setTop (mkF m 13 #[.val (.int p0), .val (.int p1), .unset] []))
  obtain ⟨c1, T1, h1, kk1, cb1, kc1, X1, e1, E1, hS1, hk1, hZ1, ho1, fE1, fC1, fV1, fA1, lt1, ltb1, hr1, Li1, sf1, st1⟩ := ldcCH X0 hx hZ hown (hw _ (List.mem_of_getElem? (i := 6) rfl)) wS e0 hS hk hEL (by decide) hC.1 (vs := [(.int (120 : Int32)), (.int (45 : Int32)), (.int (119 : Int32)), (.int (111 : Int32)), (.int (114 : Int32)), (.int (100 : Int32)), (.int (45 : Int32)), (.int (111 : Int32)), (.int (100 : Int32)), (.int (100 : Int32)), (.int (115 : Int32))]) (z := (11 : Int32)) (by decide +kernel) (by decide) rfl (g := (mkF m 13 #[.val (.int p0), .val (.int p1), .unset] [])) rfl (hb hby d1_13) (n := 44) (by decide) (by decide) (by decide) (by decide)
  have Sf_ln__L1 := CHr.safe hr1 GL.lt Sf_ln
  have ne_ln_c1 : ln ≠ c1 := (sf1 _ Sf_ln__L1).1
  have ne_ln_cb1 : ln ≠ cb1 := (sf1 _ Sf_ln__L1).2
  have K2 : Keep h0 h1 [] := K0.ext E1
  have hC := hC.trans hr1
  have hS := hS1
  have hk := hk1
  have hZ := hZ1
  have hown := ho1
  refine Runs.by st1 ?_
  refine Runs.by (fun _ hr => XS.astoreN X1.here hx rfl (hb hby d1_15) rfl rfl (l' := #[.val (.int p0), .val (.int p1), .val (.ref c1)]) rfl hr) ?_
  refine Runs.by (fun _ hr => XS.aloadN X1.here hx rfl (hb hby d1_16) rfl rfl hr) ?_
  show Runs p e below _ (T1.setTop (mkF m 17 #[.val (.int p0), .val (.int p1), .val (.ref c1)] [(.ref c1)]))
  refine Runs.by (fun _ hr => XS.iloadN X1.here hx rfl (hb hby d1_17) rfl  hr) ?_
  show Runs p e below _ (T1.setTop (mkF m 18 #[.val (.int p0), .val (.int p1), .val (.ref c1)] [(.int p0), (.ref c1)]))
  obtain ⟨cq3, kq3, q3a, q3b, q3c⟩ := isOf hZ e1 fE1
  obtain ⟨_, _, ⟨T3, L3, k3, n3⟩, -, X3, ⟨Lc3, hQ3, l3, y3, z3⟩, st3⟩ := X1.virtualBack hx (y := (⟨"java/lang/String", "charAt", "(I)C"⟩ : MethodName)) (z := (⟨"java/lang/String", "charAt", "(I)C"⟩ : MethodName)) hown (mvT hZ (hw _ (List.mem_of_getElem? (i := 13) rfl))) (mvT hZ (hw _ (List.mem_of_getElem? (i := 14) rfl))) (notFace_of_selects (args := #[]) (mvT hZ (hw _ (List.mem_of_getElem? (i := 16) rfl)))) (mvT hZ (hw _ (List.mem_of_getElem? (i := 16) rfl))) (mvT hZ (hw _ (List.mem_of_getElem? (i := 15) rfl))) (by decide) (backOf (W := 0) (rm2 l Z a0 hw [] c1 p0 gC vG cb1 kc1 (11 : Int32) [(.int (120 : Int32)), (.int (45 : Int32)), (.int (119 : Int32)), (.int (111 : Int32)), (.int (114 : Int32)), (.int (100 : Int32)), (.int (45 : Int32)), (.int (111 : Int32)), (.int (100 : Int32)), (.int (100 : Int32)), (.int (115 : Int32))] (.int 0) bb cc h1 n0 (Nat.le_trans Z0 K2.1) fE1 (SC.ext E1) cC fC1 fV1 hvG hin (SG.ext E1) fA1 hat hcc) hZ (hw _ (List.mem_of_getElem? (i := 17) rfl)) (hw _ (List.mem_of_getElem? (i := 7) rfl)) (by decide) (by decide)) q3a q3c (g := (mkF m 18 #[.val (.int p0), .val (.int p1), .val (.ref c1)] [(.int p0), (.ref c1)])) rfl (by rw [hml]; rfl) (Steps.refl _) (argsL := [(.int p0)]) (rest := []) (lenOf pd_4 rfl) rfl (by show 2 * 0 + _ ≤ _; exact Nat.le_of_eq rfl) (hb hby d1_18) (fun _ _ => ⟨rfl, e1, (by decide : 2 + 0 ≤ _), (by decide : 48 + 0 ≤ _)⟩)
  dsimp only [Pt.U, Pt.locs, Pt.cells, Pt.slots] at X3 l3 y3 z3 st3 hQ3
  subst l3 y3 z3
  obtain ⟨rfl, Nq3, eq3⟩ := hQ3
  have N3 := Fr.app N0 Nq3
  refine Runs.by (fun _ hr => st3.trans hr) ?_
  show Runs p e below _ (T3.setTop (mkF m 21 #[.val (.int p0), .val (.int p1), .val (.ref c1)] [(.int cc)]))
  refine Runs.by (fun _ hr => XS.i2b X3.here hx rfl (hb hby d1_21) rfl hr) ?_
  rw [h8]
  show Runs p e below _ (T3.setTop (mkF m 22 #[.val (.int p0), .val (.int p1), .val (.ref c1)] [(.int cc)]))
  refine Runs.retX X3 hx hrt hlk eq3 hS hk hZ hEL hC (Or.inl ⟨rfl, by simp, _, rfl⟩) (own_nb h8) (hb hby d1_22) (by decide) (by decide) ?_
  exact ⟨rfl, N3, K2, c1, cb1, kc1, own_lstay (s := s) Li1 X3.warmed.wide, fE1, fC1, fV1, fA1, ne_ln_c1, ne_ln_cb1⟩
def Q_rm1_24w (Z : State) (p0 : Int32) (p1 : Int32) (gC : Int32) (vG : Value) (bb cc : Int32) (ln : Addr) (kl : ClassId) (wl : Nat → Int32) (la lb : Addr) (lk : ClassId) (h0 : Heap) (n0 : Nat) (v : Option Value) (h : Heap) (L : List Loc) (vm : Vm) : Prop := v = some (.int cc) ∧ Fr n0 L ∧ Keep h0 h []
set_option maxRecDepth 65536 in
set_option maxHeartbeats 40000000 in
theorem rm1_24w (l : Launch) (Z : State) (a0 : Array Value) (hw : ∀ d ∈ tables_1, d.before a0 Z = true) (ws : List Jvm.Cond) (p0 : Int32) (p1 : Int32) (gC : Int32) (vG : Value) (bb cc : Int32) (ln : Addr) (kl : ClassId) (wl : Nat → Int32) (la lb : Addr) (lk : ClassId) (h0 : Heap) (n0 : Nat) (Z0 : n0 ≤ h0.size) (SC : Sta Z h0 "java/lang/String" "COMPACT_STRINGS" "Z" (.int gC)) (cC : ¬ (gC = (0 : Int32))) (hvG : vG.isRef = true) (SG : Sta Z h0 "jdk/internal/util/Preconditions" "SIOOBE_FORMATTER" "Ljava/util/function/BiFunction;" vG) (hbit : ((p1 >>> (p0 &&& 31)) &&& (1 : Int32)) = (0 : Int32)) (hin : ¬ (p0 < 0) ∧ p0 < (11 : Int32)) (hat : ([(.int (120 : Int32)), (.int (45 : Int32)), (.int (119 : Int32)), (.int (111 : Int32)), (.int (114 : Int32)), (.int (100 : Int32)), (.int (45 : Int32)), (.int (111 : Int32)), (.int (100 : Int32)), (.int (100 : Int32)), (.int (115 : Int32))] : List Value).getD p0.toNatClampNeg (.int 0) = .int bb) (hcc : ((bb &&& (255 : Int32)).toUInt32.toUInt16.toUInt32.toInt32) = cc) (h8 : cc.toInt8.toInt32 = cc) (GL : Arf Z h0 ln kl .byte (24 : Int32) (fun j_ => .int (wl j_))) (LE : Exa Z h0 la "java/lang/String") (LC : Fld Z h0 la "java/lang/String" "coder" "B" (.int (0 : Int32))) (LV : Fld Z h0 la "java/lang/String" "value" "[B" (.ref lb)) (LA : Arv Z h0 lb lk .byte (11 : Int32) [(.int (120 : Int32)), (.int (45 : Int32)), (.int (119 : Int32)), (.int (111 : Int32)), (.int (114 : Int32)), (.int (100 : Int32)), (.int (45 : Int32)), (.int (111 : Int32)), (.int (100 : Int32)), (.int (100 : Int32)), (.int (115 : Int32))] (.int 0)) (hEL : EW Z a0 consts_1) :
    MetFree l (⟨"com/example/word_odds/wordodds/filter/VerdictFieldBeginsPinLaw", "nameByte", "(II)B"⟩ : MethodName) (head1 (Jvm.Cond.code (⟨"com/example/word_odds/wordodds/filter/VerdictFieldBeginsPinLaw", "nameByte", "(II)B"⟩ : MethodName) method_3_code 3 (some .byte) :: ws) ({ frames := 4, cells := 0, slots := 0, locals := 60 } : Room)) (fun a U => a = #[(.int p0), (.int p1)] ∧ Z.Warmed39 U.vm ∧ U.heap = h0 ∧ CHv Z consts_1 U.vm h0 ∧ Safe Z consts_1 U.vm h0 ln ∧ Lit (Z.setVm U.vm) "com/example/word_odds/wordodds/filter/VerdictFieldBeginsPinLaw" 24 la) (fun _ _ _ _ _ => True) (fun _ U o U' => ∃ v L, o = .returned v ∧ Q_rm1_24w Z p0 p1 gC vG bb cc ln kl wl la lb lk h0 n0 v U'.heap L U'.vm ∧ CHr Z consts_1 U.vm U.heap U'.vm U'.heap ∧ ReturnedEndW U o U' L ({ frames := 4, cells := 0, slots := 0, locals := 60 } : Room).cells ({ frames := 4, cells := 0, slots := 0, locals := 60 } : Room).slots) := by
  refine MetFree.of_bodySF (plainFor_of_name pn_com_example_word_odds_wordodds_filter_VerdictFieldBeginsPinLaw) hisR ?_
  intro p e s m args below meth c s₁ Bd hml0 hP hK
  obtain ⟨rfl, hZ, hh, hCv, Sf_ln, hPX⟩ := hP
  have hx := Bd.exec
  have hby := Bd.bytes
  have hlk := BodyLoose.notSynchronized Bd
  have hrt := Bd.returns
  have hml : c.maxLocals = 3 := hml0
  have hown : s.vm.findClass "com/example/word_odds/wordodds/filter/VerdictFieldBeginsPinLaw" = some m.cls := findClass_of_methodNamed Bd.named
  have hnm := (name_of_methodNamed Bd.named Bd.method).1
  have X0 : Stand p l e ({ frames := 4, cells := 0, slots := 0, locals := 60 } : Room) (s.setVm s.vm) m #[(.int p0), (.int p1)] below meth c s₁ [] 0 0 := Stand.of_body Bd
  have e0 : s₁.heap = h0 := by rw [← hh, Bd.state]; rfl
  have N0 := Fr.nil n0
  have K0 : Keep h0 h0 [] := Keep.refl h0 _
  have hC : CHr Z consts_1 s.vm s.heap s.vm h0 := by rw [hh]; exact CHr.refl hCv
  have hS : s.Since s.vm h0.size := (State.WarmedH.refl s).since _
  have hk : h0.size ≤ h0.size := Nat.le_refl _
  show Runs p e below (QEX Z consts_1 s (Q_rm1_24w Z p0 p1 gC vG bb cc ln kl wl la lb lk h0 n0) ({ frames := 4, cells := 0, slots := 0, locals := 60 } : Room).cells ({ frames := 4, cells := 0, slots := 0, locals := 60 } : Room).slots) (s₁.setTop (entryFrame m #[(.int p0), (.int p1)] 3))
  rw [ef_1_10 m p0 p1]
  have wS : ∀ a ∈ Bundle.stringAtoms, a.before a0 Z = true := fun d hd => hw d ((by decide +kernel : ∀ d ∈ Bundle.stringAtoms, d ∈ tables_1) d hd)
  refine Runs.by (fun _ hr => XS.iloadN X0.here hx rfl (hb hby d1_0) rfl  hr) ?_
  refine Runs.by (fun _ hr => XS.iloadN X0.here hx rfl (hb hby d1_1) rfl  hr) ?_
  show Runs p e below _ (s₁.setTop (mkF m 2 #[.val (.int p0), .val (.int p1), .unset] [(.int p0), (.int p1)]))
  refine Runs.by (fun _ hr => XS.ishr X0.here hx rfl (hb hby d1_2) rfl hr) ?_
  refine Runs.by (fun _ hr => XS.iconst X0.here hx rfl (hb hby d1_3) hr) ?_
  show Runs p e below _ (s₁.setTop (mkF m 4 #[.val (.int p0), .val (.int p1), .unset] [(.int (1 : Int32)), (.int (p1 >>> (p0 &&& 31)))]))
  refine Runs.by (fun _ hr => XS.iand X0.here hx rfl (hb hby d1_4) rfl hr) ?_
  have hc5 : ((p1 >>> (p0 &&& 31)) &&& (1 : Int32)) = (0 : Int32) := hbit
  refine Runs.by (fun _ hr => XS.ifYes X0.here hx rfl (pc0 := 5) (pc' := 13) rfl (hb hby d1_5) rfl ((if0 _ _).trans (teq hc5).1) (by decide) (by decide) hr) ?_
  show Runs p e below _ (s₁.setTop (mkF m 13 #[.val (.int p0), .val (.int p1), .unset] []))
  refine Runs.by (ldcAgain X0 hx hZ hown (hw _ (List.mem_of_getElem? (i := 6) rfl)) hPX (g := (mkF m 13 #[.val (.int p0), .val (.int p1), .unset] [])) rfl (hb hby d1_13)) ?_
  refine Runs.by (fun _ hr => XS.astoreN X0.here hx rfl (hb hby d1_15) rfl rfl (l' := #[.val (.int p0), .val (.int p1), .val (.ref la)]) rfl hr) ?_
  refine Runs.by (fun _ hr => XS.aloadN X0.here hx rfl (hb hby d1_16) rfl rfl hr) ?_
  show Runs p e below _ (s₁.setTop (mkF m 17 #[.val (.int p0), .val (.int p1), .val (.ref la)] [(.ref la)]))
  refine Runs.by (fun _ hr => XS.iloadN X0.here hx rfl (hb hby d1_17) rfl  hr) ?_
  show Runs p e below _ (s₁.setTop (mkF m 18 #[.val (.int p0), .val (.int p1), .val (.ref la)] [(.int p0), (.ref la)]))
  obtain ⟨cq1, kq1, q1a, q1b, q1c⟩ := isOf hZ e0 LE
  obtain ⟨_, _, ⟨T1, L1, k1, n1⟩, -, X1, ⟨Lc1, hQ1, l1, y1, z1⟩, st1⟩ := X0.virtualBack hx (y := (⟨"java/lang/String", "charAt", "(I)C"⟩ : MethodName)) (z := (⟨"java/lang/String", "charAt", "(I)C"⟩ : MethodName)) hown (mvT hZ (hw _ (List.mem_of_getElem? (i := 13) rfl))) (mvT hZ (hw _ (List.mem_of_getElem? (i := 14) rfl))) (notFace_of_selects (args := #[]) (mvT hZ (hw _ (List.mem_of_getElem? (i := 16) rfl)))) (mvT hZ (hw _ (List.mem_of_getElem? (i := 16) rfl))) (mvT hZ (hw _ (List.mem_of_getElem? (i := 15) rfl))) (by decide) (backOf (W := 0) (rm2 l Z a0 hw [] la p0 gC vG lb lk (11 : Int32) [(.int (120 : Int32)), (.int (45 : Int32)), (.int (119 : Int32)), (.int (111 : Int32)), (.int (114 : Int32)), (.int (100 : Int32)), (.int (45 : Int32)), (.int (111 : Int32)), (.int (100 : Int32)), (.int (100 : Int32)), (.int (115 : Int32))] (.int 0) bb cc h0 n0 (Nat.le_trans Z0 K0.1) LE SC cC LC LV hvG hin SG LA hat hcc) hZ (hw _ (List.mem_of_getElem? (i := 17) rfl)) (hw _ (List.mem_of_getElem? (i := 7) rfl)) (by decide) (by decide)) q1a q1c (g := (mkF m 18 #[.val (.int p0), .val (.int p1), .val (.ref la)] [(.int p0), (.ref la)])) rfl (by rw [hml]; rfl) (Steps.refl _) (argsL := [(.int p0)]) (rest := []) (lenOf pd_4 rfl) rfl (by show 2 * 0 + _ ≤ _; exact Nat.le_of_eq rfl) (hb hby d1_18) (fun _ _ => ⟨rfl, e0, (by decide : 0 + 0 ≤ _), (by decide : 0 + 0 ≤ _)⟩)
  dsimp only [Pt.U, Pt.locs, Pt.cells, Pt.slots] at X1 l1 y1 z1 st1 hQ1
  subst l1 y1 z1
  obtain ⟨rfl, Nq1, eq1⟩ := hQ1
  have N1 := Fr.app N0 Nq1
  refine Runs.by (fun _ hr => st1.trans hr) ?_
  show Runs p e below _ (T1.setTop (mkF m 21 #[.val (.int p0), .val (.int p1), .val (.ref la)] [(.int cc)]))
  refine Runs.by (fun _ hr => XS.i2b X1.here hx rfl (hb hby d1_21) rfl hr) ?_
  rw [h8]
  show Runs p e below _ (T1.setTop (mkF m 22 #[.val (.int p0), .val (.int p1), .val (.ref la)] [(.int cc)]))
  refine Runs.retX X1 hx hrt hlk eq1 hS hk hZ hEL hC (Or.inl ⟨rfl, by simp, _, rfl⟩) (own_nb h8) (hb hby d1_22) (by decide) (by decide) ?_
  exact ⟨rfl, N1, K0⟩
def Q_rm1_32c (Z : State) (p0 : Int32) (p1 : Int32) (gC : Int32) (vG : Value) (bb cc : Int32) (ln : Addr) (kl : ClassId) (wl : Nat → Int32) (h0 : Heap) (n0 : Nat) (v : Option Value) (h : Heap) (L : List Loc) (vm : Vm) : Prop := v = some (.int cc) ∧ Fr n0 L ∧ Keep h0 h [] ∧ own_LS Z vm h ln "com/example/word_odds/wordodds/filter/VerdictFieldBeginsPinLaw" 32 (11 : Int32) [(.int (88 : Int32)), (.int (45 : Int32)), (.int (87 : Int32)), (.int (79 : Int32)), (.int (82 : Int32)), (.int (68 : Int32)), (.int (45 : Int32)), (.int (79 : Int32)), (.int (68 : Int32)), (.int (68 : Int32)), (.int (83 : Int32))]
set_option maxRecDepth 65536 in
set_option maxHeartbeats 40000000 in
theorem rm1_32c (l : Launch) (Z : State) (a0 : Array Value) (hw : ∀ d ∈ tables_1, d.before a0 Z = true) (ws : List Jvm.Cond) (p0 : Int32) (p1 : Int32) (gC : Int32) (vG : Value) (bb cc : Int32) (ln : Addr) (kl : ClassId) (wl : Nat → Int32) (h0 : Heap) (n0 : Nat) (Z0 : n0 ≤ h0.size) (SC : Sta Z h0 "java/lang/String" "COMPACT_STRINGS" "Z" (.int gC)) (cC : ¬ (gC = (0 : Int32))) (hvG : vG.isRef = true) (SG : Sta Z h0 "jdk/internal/util/Preconditions" "SIOOBE_FORMATTER" "Ljava/util/function/BiFunction;" vG) (hbit : ¬ (((p1 >>> (p0 &&& 31)) &&& (1 : Int32)) = (0 : Int32))) (hin : ¬ (p0 < 0) ∧ p0 < (11 : Int32)) (hat : ([(.int (88 : Int32)), (.int (45 : Int32)), (.int (87 : Int32)), (.int (79 : Int32)), (.int (82 : Int32)), (.int (68 : Int32)), (.int (45 : Int32)), (.int (79 : Int32)), (.int (68 : Int32)), (.int (68 : Int32)), (.int (83 : Int32))] : List Value).getD p0.toNatClampNeg (.int 0) = .int bb) (hcc : ((bb &&& (255 : Int32)).toUInt32.toUInt16.toUInt32.toInt32) = cc) (h8 : cc.toInt8.toInt32 = cc) (GL : Arf Z h0 ln kl .byte (24 : Int32) (fun j_ => .int (wl j_))) (hEL : EW Z a0 consts_1) :
    MetFree l (⟨"com/example/word_odds/wordodds/filter/VerdictFieldBeginsPinLaw", "nameByte", "(II)B"⟩ : MethodName) (head1 (Jvm.Cond.code (⟨"com/example/word_odds/wordodds/filter/VerdictFieldBeginsPinLaw", "nameByte", "(II)B"⟩ : MethodName) method_3_code 3 (some .byte) :: ws) ({ frames := 4, cells := 2, slots := 48, locals := 60 } : Room)) (fun a U => a = #[(.int p0), (.int p1)] ∧ Z.Warmed39 U.vm ∧ U.heap = h0 ∧ CHv Z consts_1 U.vm h0 ∧ Safe Z consts_1 U.vm h0 ln ∧ True) (fun _ _ _ _ _ => True) (fun _ U o U' => ∃ v L, o = .returned v ∧ Q_rm1_32c Z p0 p1 gC vG bb cc ln kl wl h0 n0 v U'.heap L U'.vm ∧ CHr Z consts_1 U.vm U.heap U'.vm U'.heap ∧ ReturnedEndW U o U' L ({ frames := 4, cells := 2, slots := 48, locals := 60 } : Room).cells ({ frames := 4, cells := 2, slots := 48, locals := 60 } : Room).slots) := by
  refine MetFree.of_bodySF (plainFor_of_name pn_com_example_word_odds_wordodds_filter_VerdictFieldBeginsPinLaw) hisR ?_
  intro p e s m args below meth c s₁ Bd hml0 hP hK
  obtain ⟨rfl, hZ, hh, hCv, Sf_ln, hPX⟩ := hP
  have hx := Bd.exec
  have hby := Bd.bytes
  have hlk := BodyLoose.notSynchronized Bd
  have hrt := Bd.returns
  have hml : c.maxLocals = 3 := hml0
  have hown : s.vm.findClass "com/example/word_odds/wordodds/filter/VerdictFieldBeginsPinLaw" = some m.cls := findClass_of_methodNamed Bd.named
  have hnm := (name_of_methodNamed Bd.named Bd.method).1
  have X0 : Stand p l e ({ frames := 4, cells := 2, slots := 48, locals := 60 } : Room) (s.setVm s.vm) m #[(.int p0), (.int p1)] below meth c s₁ [] 0 0 := Stand.of_body Bd
  have e0 : s₁.heap = h0 := by rw [← hh, Bd.state]; rfl
  have N0 := Fr.nil n0
  have K0 : Keep h0 h0 [] := Keep.refl h0 _
  have hC : CHr Z consts_1 s.vm s.heap s.vm h0 := by rw [hh]; exact CHr.refl hCv
  have hS : s.Since s.vm h0.size := (State.WarmedH.refl s).since _
  have hk : h0.size ≤ h0.size := Nat.le_refl _
  show Runs p e below (QEX Z consts_1 s (Q_rm1_32c Z p0 p1 gC vG bb cc ln kl wl h0 n0) ({ frames := 4, cells := 2, slots := 48, locals := 60 } : Room).cells ({ frames := 4, cells := 2, slots := 48, locals := 60 } : Room).slots) (s₁.setTop (entryFrame m #[(.int p0), (.int p1)] 3))
  rw [ef_1_10 m p0 p1]
  have wS : ∀ a ∈ Bundle.stringAtoms, a.before a0 Z = true := fun d hd => hw d ((by decide +kernel : ∀ d ∈ Bundle.stringAtoms, d ∈ tables_1) d hd)
  refine Runs.by (fun _ hr => XS.iloadN X0.here hx rfl (hb hby d1_0) rfl  hr) ?_
  refine Runs.by (fun _ hr => XS.iloadN X0.here hx rfl (hb hby d1_1) rfl  hr) ?_
  show Runs p e below _ (s₁.setTop (mkF m 2 #[.val (.int p0), .val (.int p1), .unset] [(.int p0), (.int p1)]))
  refine Runs.by (fun _ hr => XS.ishr X0.here hx rfl (hb hby d1_2) rfl hr) ?_
  refine Runs.by (fun _ hr => XS.iconst X0.here hx rfl (hb hby d1_3) hr) ?_
  show Runs p e below _ (s₁.setTop (mkF m 4 #[.val (.int p0), .val (.int p1), .unset] [(.int (1 : Int32)), (.int (p1 >>> (p0 &&& 31)))]))
  refine Runs.by (fun _ hr => XS.iand X0.here hx rfl (hb hby d1_4) rfl hr) ?_
  have hc5 : ¬ (((p1 >>> (p0 &&& 31)) &&& (1 : Int32)) = (0 : Int32)) := hbit
  refine Runs.by (fun _ hr => XS.ifNo X0.here hx rfl (hb hby d1_5) rfl ((if0 _ _).trans (feq hc5).1) hr) ?_
  show Runs p e below _ (s₁.setTop (mkF m 8 #[.val (.int p0), .val (.int p1), .unset] []))
  obtain ⟨c1, T1, h1, kk1, cb1, kc1, X1, e1, E1, hS1, hk1, hZ1, ho1, fE1, fC1, fV1, fA1, lt1, ltb1, hr1, Li1, sf1, st1⟩ := ldcCH X0 hx hZ hown (hw _ (List.mem_of_getElem? (i := 38) rfl)) wS e0 hS hk hEL (by decide) hC.1 (vs := [(.int (88 : Int32)), (.int (45 : Int32)), (.int (87 : Int32)), (.int (79 : Int32)), (.int (82 : Int32)), (.int (68 : Int32)), (.int (45 : Int32)), (.int (79 : Int32)), (.int (68 : Int32)), (.int (68 : Int32)), (.int (83 : Int32))]) (z := (11 : Int32)) (by decide +kernel) (by decide) rfl (g := (mkF m 8 #[.val (.int p0), .val (.int p1), .unset] [])) rfl (hb hby d1_8) (n := 44) (by decide) (by decide) (by decide) (by decide)
  have Sf_ln__L1 := CHr.safe hr1 GL.lt Sf_ln
  have ne_ln_c1 : ln ≠ c1 := (sf1 _ Sf_ln__L1).1
  have ne_ln_cb1 : ln ≠ cb1 := (sf1 _ Sf_ln__L1).2
  have K2 : Keep h0 h1 [] := K0.ext E1
  have hC := hC.trans hr1
  have hS := hS1
  have hk := hk1
  have hZ := hZ1
  have hown := ho1
  refine Runs.by st1 ?_
  refine Runs.by (fun _ hr => XS.goto X1.here hx rfl (pc0 := 10) (pc' := 15) rfl (hb hby d1_10) (by decide) (by decide) hr) ?_
  refine Runs.by (fun _ hr => XS.astoreN X1.here hx rfl (hb hby d1_15) rfl rfl (l' := #[.val (.int p0), .val (.int p1), .val (.ref c1)]) rfl hr) ?_
  show Runs p e below _ (T1.setTop (mkF m 16 #[.val (.int p0), .val (.int p1), .val (.ref c1)] []))
  refine Runs.by (fun _ hr => XS.aloadN X1.here hx rfl (hb hby d1_16) rfl rfl hr) ?_
  refine Runs.by (fun _ hr => XS.iloadN X1.here hx rfl (hb hby d1_17) rfl  hr) ?_
  show Runs p e below _ (T1.setTop (mkF m 18 #[.val (.int p0), .val (.int p1), .val (.ref c1)] [(.int p0), (.ref c1)]))
  obtain ⟨cq3, kq3, q3a, q3b, q3c⟩ := isOf hZ e1 fE1
  obtain ⟨_, _, ⟨T3, L3, k3, n3⟩, -, X3, ⟨Lc3, hQ3, l3, y3, z3⟩, st3⟩ := X1.virtualBack hx (y := (⟨"java/lang/String", "charAt", "(I)C"⟩ : MethodName)) (z := (⟨"java/lang/String", "charAt", "(I)C"⟩ : MethodName)) hown (mvT hZ (hw _ (List.mem_of_getElem? (i := 13) rfl))) (mvT hZ (hw _ (List.mem_of_getElem? (i := 14) rfl))) (notFace_of_selects (args := #[]) (mvT hZ (hw _ (List.mem_of_getElem? (i := 16) rfl)))) (mvT hZ (hw _ (List.mem_of_getElem? (i := 16) rfl))) (mvT hZ (hw _ (List.mem_of_getElem? (i := 15) rfl))) (by decide) (backOf (W := 0) (rm2 l Z a0 hw [] c1 p0 gC vG cb1 kc1 (11 : Int32) [(.int (88 : Int32)), (.int (45 : Int32)), (.int (87 : Int32)), (.int (79 : Int32)), (.int (82 : Int32)), (.int (68 : Int32)), (.int (45 : Int32)), (.int (79 : Int32)), (.int (68 : Int32)), (.int (68 : Int32)), (.int (83 : Int32))] (.int 0) bb cc h1 n0 (Nat.le_trans Z0 K2.1) fE1 (SC.ext E1) cC fC1 fV1 hvG hin (SG.ext E1) fA1 hat hcc) hZ (hw _ (List.mem_of_getElem? (i := 17) rfl)) (hw _ (List.mem_of_getElem? (i := 7) rfl)) (by decide) (by decide)) q3a q3c (g := (mkF m 18 #[.val (.int p0), .val (.int p1), .val (.ref c1)] [(.int p0), (.ref c1)])) rfl (by rw [hml]; rfl) (Steps.refl _) (argsL := [(.int p0)]) (rest := []) (lenOf pd_4 rfl) rfl (by show 2 * 0 + _ ≤ _; exact Nat.le_of_eq rfl) (hb hby d1_18) (fun _ _ => ⟨rfl, e1, (by decide : 2 + 0 ≤ _), (by decide : 48 + 0 ≤ _)⟩)
  dsimp only [Pt.U, Pt.locs, Pt.cells, Pt.slots] at X3 l3 y3 z3 st3 hQ3
  subst l3 y3 z3
  obtain ⟨rfl, Nq3, eq3⟩ := hQ3
  have N3 := Fr.app N0 Nq3
  refine Runs.by (fun _ hr => st3.trans hr) ?_
  show Runs p e below _ (T3.setTop (mkF m 21 #[.val (.int p0), .val (.int p1), .val (.ref c1)] [(.int cc)]))
  refine Runs.by (fun _ hr => XS.i2b X3.here hx rfl (hb hby d1_21) rfl hr) ?_
  rw [h8]
  show Runs p e below _ (T3.setTop (mkF m 22 #[.val (.int p0), .val (.int p1), .val (.ref c1)] [(.int cc)]))
  refine Runs.retX X3 hx hrt hlk eq3 hS hk hZ hEL hC (Or.inl ⟨rfl, by simp, _, rfl⟩) (own_nb h8) (hb hby d1_22) (by decide) (by decide) ?_
  exact ⟨rfl, N3, K2, c1, cb1, kc1, own_lstay (s := s) Li1 X3.warmed.wide, fE1, fC1, fV1, fA1, ne_ln_c1, ne_ln_cb1⟩
def Q_rm1_32w (Z : State) (p0 : Int32) (p1 : Int32) (gC : Int32) (vG : Value) (bb cc : Int32) (ln : Addr) (kl : ClassId) (wl : Nat → Int32) (la lb : Addr) (lk : ClassId) (h0 : Heap) (n0 : Nat) (v : Option Value) (h : Heap) (L : List Loc) (vm : Vm) : Prop := v = some (.int cc) ∧ Fr n0 L ∧ Keep h0 h []
set_option maxRecDepth 65536 in
set_option maxHeartbeats 40000000 in
theorem rm1_32w (l : Launch) (Z : State) (a0 : Array Value) (hw : ∀ d ∈ tables_1, d.before a0 Z = true) (ws : List Jvm.Cond) (p0 : Int32) (p1 : Int32) (gC : Int32) (vG : Value) (bb cc : Int32) (ln : Addr) (kl : ClassId) (wl : Nat → Int32) (la lb : Addr) (lk : ClassId) (h0 : Heap) (n0 : Nat) (Z0 : n0 ≤ h0.size) (SC : Sta Z h0 "java/lang/String" "COMPACT_STRINGS" "Z" (.int gC)) (cC : ¬ (gC = (0 : Int32))) (hvG : vG.isRef = true) (SG : Sta Z h0 "jdk/internal/util/Preconditions" "SIOOBE_FORMATTER" "Ljava/util/function/BiFunction;" vG) (hbit : ¬ (((p1 >>> (p0 &&& 31)) &&& (1 : Int32)) = (0 : Int32))) (hin : ¬ (p0 < 0) ∧ p0 < (11 : Int32)) (hat : ([(.int (88 : Int32)), (.int (45 : Int32)), (.int (87 : Int32)), (.int (79 : Int32)), (.int (82 : Int32)), (.int (68 : Int32)), (.int (45 : Int32)), (.int (79 : Int32)), (.int (68 : Int32)), (.int (68 : Int32)), (.int (83 : Int32))] : List Value).getD p0.toNatClampNeg (.int 0) = .int bb) (hcc : ((bb &&& (255 : Int32)).toUInt32.toUInt16.toUInt32.toInt32) = cc) (h8 : cc.toInt8.toInt32 = cc) (GL : Arf Z h0 ln kl .byte (24 : Int32) (fun j_ => .int (wl j_))) (LE : Exa Z h0 la "java/lang/String") (LC : Fld Z h0 la "java/lang/String" "coder" "B" (.int (0 : Int32))) (LV : Fld Z h0 la "java/lang/String" "value" "[B" (.ref lb)) (LA : Arv Z h0 lb lk .byte (11 : Int32) [(.int (88 : Int32)), (.int (45 : Int32)), (.int (87 : Int32)), (.int (79 : Int32)), (.int (82 : Int32)), (.int (68 : Int32)), (.int (45 : Int32)), (.int (79 : Int32)), (.int (68 : Int32)), (.int (68 : Int32)), (.int (83 : Int32))] (.int 0)) (hEL : EW Z a0 consts_1) :
    MetFree l (⟨"com/example/word_odds/wordodds/filter/VerdictFieldBeginsPinLaw", "nameByte", "(II)B"⟩ : MethodName) (head1 (Jvm.Cond.code (⟨"com/example/word_odds/wordodds/filter/VerdictFieldBeginsPinLaw", "nameByte", "(II)B"⟩ : MethodName) method_3_code 3 (some .byte) :: ws) ({ frames := 4, cells := 0, slots := 0, locals := 60 } : Room)) (fun a U => a = #[(.int p0), (.int p1)] ∧ Z.Warmed39 U.vm ∧ U.heap = h0 ∧ CHv Z consts_1 U.vm h0 ∧ Safe Z consts_1 U.vm h0 ln ∧ Lit (Z.setVm U.vm) "com/example/word_odds/wordodds/filter/VerdictFieldBeginsPinLaw" 32 la) (fun _ _ _ _ _ => True) (fun _ U o U' => ∃ v L, o = .returned v ∧ Q_rm1_32w Z p0 p1 gC vG bb cc ln kl wl la lb lk h0 n0 v U'.heap L U'.vm ∧ CHr Z consts_1 U.vm U.heap U'.vm U'.heap ∧ ReturnedEndW U o U' L ({ frames := 4, cells := 0, slots := 0, locals := 60 } : Room).cells ({ frames := 4, cells := 0, slots := 0, locals := 60 } : Room).slots) := by
  refine MetFree.of_bodySF (plainFor_of_name pn_com_example_word_odds_wordodds_filter_VerdictFieldBeginsPinLaw) hisR ?_
  intro p e s m args below meth c s₁ Bd hml0 hP hK
  obtain ⟨rfl, hZ, hh, hCv, Sf_ln, hPX⟩ := hP
  have hx := Bd.exec
  have hby := Bd.bytes
  have hlk := BodyLoose.notSynchronized Bd
  have hrt := Bd.returns
  have hml : c.maxLocals = 3 := hml0
  have hown : s.vm.findClass "com/example/word_odds/wordodds/filter/VerdictFieldBeginsPinLaw" = some m.cls := findClass_of_methodNamed Bd.named
  have hnm := (name_of_methodNamed Bd.named Bd.method).1
  have X0 : Stand p l e ({ frames := 4, cells := 0, slots := 0, locals := 60 } : Room) (s.setVm s.vm) m #[(.int p0), (.int p1)] below meth c s₁ [] 0 0 := Stand.of_body Bd
  have e0 : s₁.heap = h0 := by rw [← hh, Bd.state]; rfl
  have N0 := Fr.nil n0
  have K0 : Keep h0 h0 [] := Keep.refl h0 _
  have hC : CHr Z consts_1 s.vm s.heap s.vm h0 := by rw [hh]; exact CHr.refl hCv
  have hS : s.Since s.vm h0.size := (State.WarmedH.refl s).since _
  have hk : h0.size ≤ h0.size := Nat.le_refl _
  show Runs p e below (QEX Z consts_1 s (Q_rm1_32w Z p0 p1 gC vG bb cc ln kl wl la lb lk h0 n0) ({ frames := 4, cells := 0, slots := 0, locals := 60 } : Room).cells ({ frames := 4, cells := 0, slots := 0, locals := 60 } : Room).slots) (s₁.setTop (entryFrame m #[(.int p0), (.int p1)] 3))
  rw [ef_1_10 m p0 p1]
  have wS : ∀ a ∈ Bundle.stringAtoms, a.before a0 Z = true := fun d hd => hw d ((by decide +kernel : ∀ d ∈ Bundle.stringAtoms, d ∈ tables_1) d hd)
  refine Runs.by (fun _ hr => XS.iloadN X0.here hx rfl (hb hby d1_0) rfl  hr) ?_
  refine Runs.by (fun _ hr => XS.iloadN X0.here hx rfl (hb hby d1_1) rfl  hr) ?_
  show Runs p e below _ (s₁.setTop (mkF m 2 #[.val (.int p0), .val (.int p1), .unset] [(.int p0), (.int p1)]))
  refine Runs.by (fun _ hr => XS.ishr X0.here hx rfl (hb hby d1_2) rfl hr) ?_
  refine Runs.by (fun _ hr => XS.iconst X0.here hx rfl (hb hby d1_3) hr) ?_
  show Runs p e below _ (s₁.setTop (mkF m 4 #[.val (.int p0), .val (.int p1), .unset] [(.int (1 : Int32)), (.int (p1 >>> (p0 &&& 31)))]))
  refine Runs.by (fun _ hr => XS.iand X0.here hx rfl (hb hby d1_4) rfl hr) ?_
  have hc5 : ¬ (((p1 >>> (p0 &&& 31)) &&& (1 : Int32)) = (0 : Int32)) := hbit
  refine Runs.by (fun _ hr => XS.ifNo X0.here hx rfl (hb hby d1_5) rfl ((if0 _ _).trans (feq hc5).1) hr) ?_
  show Runs p e below _ (s₁.setTop (mkF m 8 #[.val (.int p0), .val (.int p1), .unset] []))
  refine Runs.by (ldcAgain X0 hx hZ hown (hw _ (List.mem_of_getElem? (i := 38) rfl)) hPX (g := (mkF m 8 #[.val (.int p0), .val (.int p1), .unset] [])) rfl (hb hby d1_8)) ?_
  refine Runs.by (fun _ hr => XS.goto X0.here hx rfl (pc0 := 10) (pc' := 15) rfl (hb hby d1_10) (by decide) (by decide) hr) ?_
  refine Runs.by (fun _ hr => XS.astoreN X0.here hx rfl (hb hby d1_15) rfl rfl (l' := #[.val (.int p0), .val (.int p1), .val (.ref la)]) rfl hr) ?_
  show Runs p e below _ (s₁.setTop (mkF m 16 #[.val (.int p0), .val (.int p1), .val (.ref la)] []))
  refine Runs.by (fun _ hr => XS.aloadN X0.here hx rfl (hb hby d1_16) rfl rfl hr) ?_
  refine Runs.by (fun _ hr => XS.iloadN X0.here hx rfl (hb hby d1_17) rfl  hr) ?_
  show Runs p e below _ (s₁.setTop (mkF m 18 #[.val (.int p0), .val (.int p1), .val (.ref la)] [(.int p0), (.ref la)]))
  obtain ⟨cq1, kq1, q1a, q1b, q1c⟩ := isOf hZ e0 LE
  obtain ⟨_, _, ⟨T1, L1, k1, n1⟩, -, X1, ⟨Lc1, hQ1, l1, y1, z1⟩, st1⟩ := X0.virtualBack hx (y := (⟨"java/lang/String", "charAt", "(I)C"⟩ : MethodName)) (z := (⟨"java/lang/String", "charAt", "(I)C"⟩ : MethodName)) hown (mvT hZ (hw _ (List.mem_of_getElem? (i := 13) rfl))) (mvT hZ (hw _ (List.mem_of_getElem? (i := 14) rfl))) (notFace_of_selects (args := #[]) (mvT hZ (hw _ (List.mem_of_getElem? (i := 16) rfl)))) (mvT hZ (hw _ (List.mem_of_getElem? (i := 16) rfl))) (mvT hZ (hw _ (List.mem_of_getElem? (i := 15) rfl))) (by decide) (backOf (W := 0) (rm2 l Z a0 hw [] la p0 gC vG lb lk (11 : Int32) [(.int (88 : Int32)), (.int (45 : Int32)), (.int (87 : Int32)), (.int (79 : Int32)), (.int (82 : Int32)), (.int (68 : Int32)), (.int (45 : Int32)), (.int (79 : Int32)), (.int (68 : Int32)), (.int (68 : Int32)), (.int (83 : Int32))] (.int 0) bb cc h0 n0 (Nat.le_trans Z0 K0.1) LE SC cC LC LV hvG hin SG LA hat hcc) hZ (hw _ (List.mem_of_getElem? (i := 17) rfl)) (hw _ (List.mem_of_getElem? (i := 7) rfl)) (by decide) (by decide)) q1a q1c (g := (mkF m 18 #[.val (.int p0), .val (.int p1), .val (.ref la)] [(.int p0), (.ref la)])) rfl (by rw [hml]; rfl) (Steps.refl _) (argsL := [(.int p0)]) (rest := []) (lenOf pd_4 rfl) rfl (by show 2 * 0 + _ ≤ _; exact Nat.le_of_eq rfl) (hb hby d1_18) (fun _ _ => ⟨rfl, e0, (by decide : 0 + 0 ≤ _), (by decide : 0 + 0 ≤ _)⟩)
  dsimp only [Pt.U, Pt.locs, Pt.cells, Pt.slots] at X1 l1 y1 z1 st1 hQ1
  subst l1 y1 z1
  obtain ⟨rfl, Nq1, eq1⟩ := hQ1
  have N1 := Fr.app N0 Nq1
  refine Runs.by (fun _ hr => st1.trans hr) ?_
  show Runs p e below _ (T1.setTop (mkF m 21 #[.val (.int p0), .val (.int p1), .val (.ref la)] [(.int cc)]))
  refine Runs.by (fun _ hr => XS.i2b X1.here hx rfl (hb hby d1_21) rfl hr) ?_
  rw [h8]
  show Runs p e below _ (T1.setTop (mkF m 22 #[.val (.int p0), .val (.int p1), .val (.ref la)] [(.int cc)]))
  refine Runs.retX X1 hx hrt hlk eq1 hS hk hZ hEL hC (Or.inl ⟨rfl, by simp, _, rfl⟩) (own_nb h8) (hb hby d1_22) (by decide) (by decide) ?_
  exact ⟨rfl, N1, K0⟩
theorem d8_0 : decode prog_3_method_2_code 0 = .ok (.iload_n 2, 1) := by decide +kernel
theorem d8_1 : decode prog_3_method_2_code 1 = .ok (.iload_n 1, 1) := by decide +kernel
theorem d8_2 : decode prog_3_method_2_code 2 = .ok (.sipush 998, 3) := by decide +kernel
theorem d8_5 : decode prog_3_method_2_code 5 = .ok (.iadd, 1) := by decide +kernel
theorem d8_6 : decode prog_3_method_2_code 6 = .ok (.invokestatic 9, 3) := by decide +kernel
theorem d8_9 : decode prog_3_method_2_code 9 = .ok (.istore_n 3, 1) := by decide +kernel
theorem d8_10 : decode prog_3_method_2_code 10 = .ok (.iload_n 3, 1) := by decide +kernel
theorem d8_11 : decode prog_3_method_2_code 11 = .ok (.iload_n 1, 1) := by decide +kernel
theorem d8_12 : decode prog_3_method_2_code 12 = .ok (.isub, 1) := by decide +kernel
theorem d8_13 : decode prog_3_method_2_code 13 = .ok (.getstatic 15, 3) := by decide +kernel
theorem d8_16 : decode prog_3_method_2_code 16 = .ok (.arraylength, 1) := by decide +kernel
theorem d8_17 : decode prog_3_method_2_code 17 = .ok (.if_icmp .gt 5, 3) := by decide +kernel
theorem d8_20 : decode prog_3_method_2_code 20 = .ok (.iconst 0, 1) := by decide +kernel
theorem d8_21 : decode prog_3_method_2_code 21 = .ok (.ireturn, 1) := by decide +kernel
theorem d8_22 : decode prog_3_method_2_code 22 = .ok (.iconst 0, 1) := by decide +kernel
theorem d8_23 : decode prog_3_method_2_code 23 = .ok (.istore 4, 2) := by decide +kernel
theorem d8_25 : decode prog_3_method_2_code 25 = .ok (.iload 4, 2) := by decide +kernel
theorem d8_27 : decode prog_3_method_2_code 27 = .ok (.getstatic 15, 3) := by decide +kernel
theorem d8_30 : decode prog_3_method_2_code 30 = .ok (.arraylength, 1) := by decide +kernel
theorem d8_31 : decode prog_3_method_2_code 31 = .ok (.if_icmp .ge 29, 3) := by decide +kernel
theorem d8_34 : decode prog_3_method_2_code 34 = .ok (.aload_n 0, 1) := by decide +kernel
theorem d8_35 : decode prog_3_method_2_code 35 = .ok (.iload_n 1, 1) := by decide +kernel
theorem d8_36 : decode prog_3_method_2_code 36 = .ok (.iload 4, 2) := by decide +kernel
theorem d8_38 : decode prog_3_method_2_code 38 = .ok (.iadd, 1) := by decide +kernel
theorem d8_39 : decode prog_3_method_2_code 39 = .ok (.baload, 1) := by decide +kernel
theorem d8_40 : decode prog_3_method_2_code 40 = .ok (.invokestatic 19, 3) := by decide +kernel
theorem d8_43 : decode prog_3_method_2_code 43 = .ok (.getstatic 15, 3) := by decide +kernel
theorem d8_46 : decode prog_3_method_2_code 46 = .ok (.iload 4, 2) := by decide +kernel
theorem d8_48 : decode prog_3_method_2_code 48 = .ok (.baload, 1) := by decide +kernel
theorem d8_49 : decode prog_3_method_2_code 49 = .ok (.if_icmp .eq 5, 3) := by decide +kernel
theorem d8_52 : decode prog_3_method_2_code 52 = .ok (.iconst 0, 1) := by decide +kernel
theorem d8_53 : decode prog_3_method_2_code 53 = .ok (.ireturn, 1) := by decide +kernel
theorem d8_54 : decode prog_3_method_2_code 54 = .ok (.iinc 4 1, 3) := by decide +kernel
theorem d8_57 : decode prog_3_method_2_code 57 = .ok (.goto (-32), 3) := by decide +kernel
theorem d8_60 : decode prog_3_method_2_code 60 = .ok (.iload_n 1, 1) := by decide +kernel
theorem d8_61 : decode prog_3_method_2_code 61 = .ok (.getstatic 15, 3) := by decide +kernel
theorem d8_64 : decode prog_3_method_2_code 64 = .ok (.arraylength, 1) := by decide +kernel
theorem d8_65 : decode prog_3_method_2_code 65 = .ok (.iadd, 1) := by decide +kernel
theorem d8_66 : decode prog_3_method_2_code 66 = .ok (.istore 4, 2) := by decide +kernel
theorem d8_68 : decode prog_3_method_2_code 68 = .ok (.iload 4, 2) := by decide +kernel
theorem d8_70 : decode prog_3_method_2_code 70 = .ok (.iload_n 3, 1) := by decide +kernel
theorem d8_71 : decode prog_3_method_2_code 71 = .ok (.if_icmp .ge 27, 3) := by decide +kernel
theorem d8_74 : decode prog_3_method_2_code 74 = .ok (.aload_n 0, 1) := by decide +kernel
theorem d8_75 : decode prog_3_method_2_code 75 = .ok (.iload 4, 2) := by decide +kernel
theorem d8_77 : decode prog_3_method_2_code 77 = .ok (.baload, 1) := by decide +kernel
theorem d8_78 : decode prog_3_method_2_code 78 = .ok (.bipush 32, 2) := by decide +kernel
theorem d8_80 : decode prog_3_method_2_code 80 = .ok (.if_icmp .eq 12, 3) := by decide +kernel
theorem d8_83 : decode prog_3_method_2_code 83 = .ok (.aload_n 0, 1) := by decide +kernel
theorem d8_84 : decode prog_3_method_2_code 84 = .ok (.iload 4, 2) := by decide +kernel
theorem d8_86 : decode prog_3_method_2_code 86 = .ok (.baload, 1) := by decide +kernel
theorem d8_87 : decode prog_3_method_2_code 87 = .ok (.bipush 9, 2) := by decide +kernel
theorem d8_89 : decode prog_3_method_2_code 89 = .ok (.if_icmp .ne 9, 3) := by decide +kernel
theorem d8_92 : decode prog_3_method_2_code 92 = .ok (.iinc 4 1, 3) := by decide +kernel
theorem d8_95 : decode prog_3_method_2_code 95 = .ok (.goto (-27), 3) := by decide +kernel
theorem d8_98 : decode prog_3_method_2_code 98 = .ok (.iload 4, 2) := by decide +kernel
theorem d8_100 : decode prog_3_method_2_code 100 = .ok (.iload_n 3, 1) := by decide +kernel
theorem d8_101 : decode prog_3_method_2_code 101 = .ok (.if_icmp .ge 16, 3) := by decide +kernel
theorem d8_104 : decode prog_3_method_2_code 104 = .ok (.aload_n 0, 1) := by decide +kernel
theorem d8_105 : decode prog_3_method_2_code 105 = .ok (.iload 4, 2) := by decide +kernel
theorem d8_107 : decode prog_3_method_2_code 107 = .ok (.baload, 1) := by decide +kernel
theorem d8_108 : decode prog_3_method_2_code 108 = .ok (.bipush 58, 2) := by decide +kernel
theorem d8_110 : decode prog_3_method_2_code 110 = .ok (.if_icmp .ne 7, 3) := by decide +kernel
theorem d8_113 : decode prog_3_method_2_code 113 = .ok (.iconst 1, 1) := by decide +kernel
theorem d8_114 : decode prog_3_method_2_code 114 = .ok (.goto 4, 3) := by decide +kernel
theorem d8_117 : decode prog_3_method_2_code 117 = .ok (.iconst 0, 1) := by decide +kernel
theorem d8_118 : decode prog_3_method_2_code 118 = .ok (.ireturn, 1) := by decide +kernel
theorem ef_8_11 (m : MethodId) (o0 : Addr) (p1 : Int32) (p2 : Int32) : entryFrame m #[(.ref o0), (.int p1), (.int p2)] 5 = mkF m 0 #[.val (.ref o0), .val (.int p1), .val (.int p2), .unset, .unset] [] := by first | (simp [entryFrame, mkF, argsToLocals, Value.category]; done) | rfl
def Q_rm8 (Z : State) (o0 : Addr) (p1 : Int32) (p2 : Int32) (kl : ClassId) (wl : Nat → Int32) (f : Nat) (lo : Addr) (ko : ClassId) (h0 : Heap) (n0 : Nat) (v : Option Value) (h : Heap) (L : List Loc) : Prop := v = some (.int (own_bg wl f p1 (own_mn p2 (p1 + (998 : Int32))))) ∧ Fr n0 L ∧ h = h0
theorem pd_5 : parseMethodDescriptor "(II)I" = some ⟨[.int, .int], some .int⟩ := by decide +kernel
theorem pd_6 : parseMethodDescriptor "(B)B" = some ⟨[.byte], some .byte⟩ := by decide +kernel
set_option maxRecDepth 65536 in
set_option maxHeartbeats 40000000 in
theorem rm8 (l : Launch) (Z : State) (a0 : Array Value) (hw : ∀ d ∈ tables_1, d.before a0 Z = true) (ws : List Jvm.Cond) (o0 : Addr) (p1 : Int32) (p2 : Int32) (kl : ClassId) (wl : Nat → Int32) (f : Nat) (lo : Addr) (ko : ClassId) (h0 : Heap) (n0 : Nat) (Z0 : n0 ≤ h0.size) (GL : Arf Z h0 o0 kl .byte (24 : Int32) (fun j_ => .int (wl j_))) (hf : p1.toInt = (f : Int)) (h3 : f ≤ 3) (hwb : ∀ j, (wl j).toInt8.toInt32 = wl j) (h15 : wl (f + 15) = 0) (SL : Sta Z h0 "com/example/word_odds/wordodds/filter/VerdictField" "LOWER_CASE_NAME" "[B" (.ref lo)) (VL : Arv Z h0 lo ko .byte (11 : Int32) [(.int (120 : Int32)), (.int (45 : Int32)), (.int (119 : Int32)), (.int (111 : Int32)), (.int (114 : Int32)), (.int (100 : Int32)), (.int (45 : Int32)), (.int (111 : Int32)), (.int (100 : Int32)), (.int (100 : Int32)), (.int (115 : Int32))] (.int (0 : Int32))) :
    MetFree l (⟨"com/example/word_odds/wordodds/filter/VerdictField", "begins", "([BII)Z"⟩ : MethodName) (head1 (Jvm.Cond.code (⟨"com/example/word_odds/wordodds/filter/VerdictField", "begins", "([BII)Z"⟩ : MethodName) prog_3_method_2_code 5 (some .boolean) :: ws) ({ frames := 1, cells := 0, slots := 0, locals := 16 } : Room)) (fun a U => a = #[(.ref o0), (.int p1), (.int p2)] ∧ Z.Warmed39 U.vm ∧ U.heap = h0) (fun _ _ _ _ _ => True) (fun _ U o U' => ∃ v L, o = .returned v ∧ Q_rm8 Z o0 p1 p2 kl wl f lo ko h0 n0 v U'.heap L ∧ FrameEnd U o U' L ({ frames := 1, cells := 0, slots := 0, locals := 16 } : Room).cells ({ frames := 1, cells := 0, slots := 0, locals := 16 } : Room).slots) := by
  refine MetFree.of_bodySF (plainFor_of_name pn_com_example_word_odds_wordodds_filter_VerdictField) hisR ?_
  intro p e s m args below meth c s₁ Bd hml0 hP hK
  obtain ⟨rfl, hZ, hh⟩ := hP
  have hx := Bd.exec
  have hby := Bd.bytes
  have hlk := BodyLoose.notSynchronized Bd
  have hrt := Bd.returns
  have hml : c.maxLocals = 5 := hml0
  have hown : s.vm.findClass "com/example/word_odds/wordodds/filter/VerdictField" = some m.cls := findClass_of_methodNamed Bd.named
  have hnm := (name_of_methodNamed Bd.named Bd.method).1
  have X0 : Stand p l e ({ frames := 1, cells := 0, slots := 0, locals := 16 } : Room) s m #[(.ref o0), (.int p1), (.int p2)] below meth c s₁ [] 0 0 := Stand.of_body Bd
  have e0 : s₁.heap = h0 := by rw [← hh, Bd.state]; rfl
  have N0 := Fr.nil n0
  have K0 : Keep h0 h0 [] := Keep.refl h0 _
  show Runs p e below (QE s (Q_rm8 Z o0 p1 p2 kl wl f lo ko h0 n0) ({ frames := 1, cells := 0, slots := 0, locals := 16 } : Room).cells ({ frames := 1, cells := 0, slots := 0, locals := 16 } : Room).slots) (s₁.setTop (entryFrame m #[(.ref o0), (.int p1), (.int p2)] 5))
  rw [ef_8_11 m o0 p1 p2]
  refine Runs.by (fun _ hr => XS.iloadN X0.here hx rfl (hb hby d8_0) rfl  hr) ?_
  refine Runs.by (fun _ hr => XS.iloadN X0.here hx rfl (hb hby d8_1) rfl  hr) ?_
  show Runs p e below _ (s₁.setTop (mkF m 2 #[.val (.ref o0), .val (.int p1), .val (.int p2), .unset, .unset] [(.int p1), (.int p2)]))
  refine Runs.by (fun _ hr => XS.sipush X0.here hx rfl (hb hby d8_2) hr) ?_
  refine Runs.by (fun _ hr => XS.iadd X0.here hx rfl (hb hby d8_5) rfl hr) ?_
  show Runs p e below _ (s₁.setTop (mkF m 6 #[.val (.ref o0), .val (.int p1), .val (.int p2), .unset, .unset] [(.int (p1 + (998 : Int32))), (.int p2)]))
  obtain ⟨_, _, ⟨T1, L1, k1, n1⟩, -, X1, ⟨Lc1, hQ1, l1, y1, z1⟩, st1⟩ := Jvm.LawKit.callS X0 hx (y := (⟨"java/lang/Math", "min", "(II)I"⟩ : MethodName)) hown (mvT hZ (hw _ (List.mem_of_getElem? (i := 46) rfl))) (mvT hZ (hw _ (List.mem_of_getElem? (i := 47) rfl))) (mvT hZ (hw _ (List.mem_of_getElem? (i := 48) rfl))) (mvT hZ (hw _ (List.mem_of_getElem? (i := 49) rfl))) (by decide) (backOf (W := 0) (rm9 l Z a0 hw [] p2 (p1 + (998 : Int32))  h0 n0 (Nat.le_trans Z0 K0.1) ) hZ (hw _ (List.mem_of_getElem? (i := 49) rfl)) (hw _ (List.mem_of_getElem? (i := 48) rfl)) (by decide) (by decide)) (g := (mkF m 6 #[.val (.ref o0), .val (.int p1), .val (.int p2), .unset, .unset] [(.int (p1 + (998 : Int32))), (.int p2)])) rfl (by rw [hml]; rfl) (argsL := [(.int p2), (.int (p1 + (998 : Int32)))]) (rest := []) (lenOf pd_5 rfl) rfl (by show 2 * 0 + _ ≤ _; exact Nat.le_of_eq rfl) (hb hby d8_6) (fun _ _ => ⟨rfl, e0, (by decide : 0 + 0 ≤ _), (by decide : 0 + 0 ≤ _)⟩)
  dsimp only [Pt.U, Pt.locs, Pt.cells, Pt.slots] at X1 l1 y1 z1 st1 hQ1
  subst l1 y1 z1
  obtain ⟨rfl, Nq1, eq1⟩ := hQ1
  have N1 := Fr.app N0 Nq1
  refine Runs.by (fun t hr => st1 t hr) ?_
  refine Runs.by (fun _ hr => XS.istoreN X1.here hx rfl (hb hby d8_9) rfl (l' := #[.val (.ref o0), .val (.int p1), .val (.int p2), .val (.int (own_mn p2 (p1 + (998 : Int32)))), .unset]) rfl hr) ?_
  refine Runs.by (fun _ hr => XS.iloadN X1.here hx rfl (hb hby d8_10) rfl  hr) ?_
  show Runs p e below _ (T1.setTop (mkF m 11 #[.val (.ref o0), .val (.int p1), .val (.int p2), .val (.int (own_mn p2 (p1 + (998 : Int32)))), .unset] [(.int (own_mn p2 (p1 + (998 : Int32))))]))
  refine Runs.by (fun _ hr => XS.iloadN X1.here hx rfl (hb hby d8_11) rfl  hr) ?_
  refine Runs.by (fun _ hr => XS.isub X1.here hx rfl (hb hby d8_12) rfl hr) ?_
  show Runs p e below _ (T1.setTop (mkF m 13 #[.val (.ref o0), .val (.int p1), .val (.int p2), .val (.int (own_mn p2 (p1 + (998 : Int32)))), .unset] [(.int ((own_mn p2 (p1 + (998 : Int32))) - p1))]))
  obtain ⟨T2, X2, e2, st2⟩ := getS2 X1 hx hZ hown (host := "") (Or.inl (hw _ (List.mem_of_getElem? (i := 50) rfl))) Via.refl eq1 SL (g := (mkF m 13 #[.val (.ref o0), .val (.int p1), .val (.int p2), .val (.int (own_mn p2 (p1 + (998 : Int32)))), .unset] [(.int ((own_mn p2 (p1 + (998 : Int32))) - p1))])) rfl (hb hby d8_13)
  refine Runs.by st2 ?_
  show Runs p e below _ (T2.setTop (mkF m 16 #[.val (.ref o0), .val (.int p1), .val (.int p2), .val (.int (own_mn p2 (p1 + (998 : Int32)))), .unset] [(.ref lo), (.int ((own_mn p2 (p1 + (998 : Int32))) - p1))]))
  obtain ⟨cl3, Ar3, -, S3, N3', -, -⟩ := id VL
  refine Runs.by (fun t hr => X2.arraylength hx (by rw [e2]; exact Ar3.1) (State.isArrayOf_alike hZ.alike Ar3.2.1) (g := (mkF m 16 #[.val (.ref o0), .val (.int p1), .val (.int p2), .val (.int (own_mn p2 (p1 + (998 : Int32)))), .unset] [(.ref lo), (.int ((own_mn p2 (p1 + (998 : Int32))) - p1))])) rfl rfl (hb hby d8_16) t hr) ?_
  rw [len_of S3 N3']
  by_cases hc17 : (11 : Int32) < ((own_mn p2 (p1 + (998 : Int32))) - p1)
  · -- pc 17: (11 : Int32) < ((own_mn p2 (p1 + (998 : Int32))) - p1)
    refine Runs.by (fun _ hr => XS.icmpYes X2.here hx rfl (pc0 := 17) (pc' := 22) rfl (hb hby d8_17) rfl (tlt hc17).2.2.1 (by decide) (by decide) hr) ?_
    refine Runs.by (fun _ hr => XS.iconst X2.here hx rfl (hb hby d8_22) hr) ?_
    show Runs p e below _ (T2.setTop (mkF m 23 #[.val (.ref o0), .val (.int p1), .val (.int p2), .val (.int (own_mn p2 (p1 + (998 : Int32)))), .unset] [(.int (0 : Int32))]))
    refine Runs.by (fun _ hr => XS.istore X2.here hx rfl (hb hby d8_23) rfl (l' := #[.val (.ref o0), .val (.int p1), .val (.int p2), .val (.int (own_mn p2 (p1 + (998 : Int32)))), .val (.int (0 : Int32))]) rfl hr) ?_
    refine Runs.by (fun _ hr => XS.iload X2.here hx rfl (hb hby d8_25) rfl  hr) ?_
    show Runs p e below _ (T2.setTop (mkF m 27 #[.val (.ref o0), .val (.int p1), .val (.int p2), .val (.int (own_mn p2 (p1 + (998 : Int32)))), .val (.int (0 : Int32))] [(.int (0 : Int32))]))
    obtain ⟨T4, X4, e4, st4⟩ := getS2 X2 hx hZ hown (host := "") (Or.inl (hw _ (List.mem_of_getElem? (i := 50) rfl))) Via.refl e2 SL (g := (mkF m 27 #[.val (.ref o0), .val (.int p1), .val (.int p2), .val (.int (own_mn p2 (p1 + (998 : Int32)))), .val (.int (0 : Int32))] [(.int (0 : Int32))])) rfl (hb hby d8_27)
    refine Runs.by st4 ?_
    show Runs p e below _ (T4.setTop (mkF m 30 #[.val (.ref o0), .val (.int p1), .val (.int p2), .val (.int (own_mn p2 (p1 + (998 : Int32)))), .val (.int (0 : Int32))] [(.ref lo), (.int (0 : Int32))]))
    obtain ⟨cl5, Ar5, -, S5, N5', -, -⟩ := id VL
    refine Runs.by (fun t hr => X4.arraylength hx (by rw [e4]; exact Ar5.1) (State.isArrayOf_alike hZ.alike Ar5.2.1) (g := (mkF m 30 #[.val (.ref o0), .val (.int p1), .val (.int p2), .val (.int (own_mn p2 (p1 + (998 : Int32)))), .val (.int (0 : Int32))] [(.ref lo), (.int (0 : Int32))])) rfl rfl (hb hby d8_30) t hr) ?_
    rw [len_of S5 N5']
    have hc31 : (0 : Int32) < (11 : Int32) := (by decide)
    refine Runs.by (fun _ hr => XS.icmpNo X4.here hx rfl (hb hby d8_31) rfl (tlt hc31).2.1 hr) ?_
    refine Runs.by (fun _ hr => XS.aloadN X4.here hx rfl (hb hby d8_34) rfl rfl hr) ?_
    show Runs p e below _ (T4.setTop (mkF m 35 #[.val (.ref o0), .val (.int p1), .val (.int p2), .val (.int (own_mn p2 (p1 + (998 : Int32)))), .val (.int (0 : Int32))] [(.ref o0)]))
    refine Runs.by (fun _ hr => XS.iloadN X4.here hx rfl (hb hby d8_35) rfl  hr) ?_
    refine Runs.by (fun _ hr => XS.iload X4.here hx rfl (hb hby d8_36) rfl  hr) ?_
    refine Runs.by (fun _ hr => XS.iadd X4.here hx rfl (hb hby d8_38) rfl hr) ?_
    show Runs p e below _ (T4.setTop (mkF m 39 #[.val (.ref o0), .val (.int p1), .val (.int p2), .val (.int (own_mn p2 (p1 + (998 : Int32)))), .val (.int (0 : Int32))] [(.int (p1 + (0 : Int32))), (.ref o0)]))
    obtain ⟨cl6, Ar6, -, S6, N6', H6⟩ := id GL
    have ix6 := own_ix (j := (p1 + (0 : Int32))) (z := (24 : Int32)) (n := f + 0) (own_ad hf h3 (n := 0) (by decide) (by decide)) (own_ad24 hf h3 (n := 0) (by decide) (by decide))
    have hin6 : ¬ ((p1 + (0 : Int32)) < 0 ∨ cl6.slots.size ≤ ((p1 + (0 : Int32))).toNatClampNeg) := inb_of S6 ix6.1
    have hat6 : cl6.slots[((p1 + (0 : Int32))).toNatClampNeg]? = some (.int (wl (f + 0))) := by rw [ix6.2.1]; exact H6 _ ix6.2.2
    refine Runs.by (fun t hr => X4.baloadBytes hx (j := (p1 + (0 : Int32))) (v := (.int (wl (f + 0)))) (by rw [e4]; exact Ar6.1) (State.isArrayOf_alike hZ.alike Ar6.2.1) Ar6.2.2 hin6 hat6 (g := (mkF m 39 #[.val (.ref o0), .val (.int p1), .val (.int p2), .val (.int (own_mn p2 (p1 + (998 : Int32)))), .val (.int (0 : Int32))] [(.int (p1 + (0 : Int32))), (.ref o0)])) rfl rfl (hb hby d8_39) t hr) ?_
    show Runs p e below _ (T4.setTop (mkF m 40 #[.val (.ref o0), .val (.int p1), .val (.int p2), .val (.int (own_mn p2 (p1 + (998 : Int32)))), .val (.int (0 : Int32))] [(.int (wl (f + 0)))]))
    obtain ⟨_, _, ⟨T7, L7, k7, n7⟩, -, X7, ⟨Lc7, hQ7, l7, y7, z7⟩, st7⟩ := Jvm.LawKit.callS X4 hx (y := (⟨"com/example/word_odds/wordodds/filter/VerdictField", "lowerCase", "(B)B"⟩ : MethodName)) hown (mvT hZ (hw _ (List.mem_of_getElem? (i := 60) rfl))) (mvT hZ (hw _ (List.mem_of_getElem? (i := 61) rfl))) (mvT hZ (hw _ (List.mem_of_getElem? (i := 44) rfl))) (mvT hZ (hw _ (List.mem_of_getElem? (i := 62) rfl))) (by decide) (backOf (W := 0) (rm11 l Z a0 hw [] (wl (f + 0))  h0 n0 (Nat.le_trans Z0 K0.1) (hwb _)) hZ (hw _ (List.mem_of_getElem? (i := 62) rfl)) (hw _ (List.mem_of_getElem? (i := 44) rfl)) (by decide) (by decide)) (g := (mkF m 40 #[.val (.ref o0), .val (.int p1), .val (.int p2), .val (.int (own_mn p2 (p1 + (998 : Int32)))), .val (.int (0 : Int32))] [(.int (wl (f + 0)))])) rfl (by rw [hml]; rfl) (argsL := [(.int (wl (f + 0)))]) (rest := []) (lenOf pd_6 rfl) rfl (by show 2 * 0 + _ ≤ _; exact Nat.le_of_eq rfl) (hb hby d8_40) (fun _ _ => ⟨rfl, e4, (by decide : 0 + 0 ≤ _), (by decide : 0 + 0 ≤ _)⟩)
    dsimp only [Pt.U, Pt.locs, Pt.cells, Pt.slots] at X7 l7 y7 z7 st7 hQ7
    subst l7 y7 z7
    obtain ⟨rfl, Nq7, eq7⟩ := hQ7
    have N7 := Fr.app N1 Nq7
    refine Runs.by (fun t hr => st7 t hr) ?_
    show Runs p e below _ (T7.setTop (mkF m 43 #[.val (.ref o0), .val (.int p1), .val (.int p2), .val (.int (own_mn p2 (p1 + (998 : Int32)))), .val (.int (0 : Int32))] [(.int (own_lc (wl (f + 0))))]))
    obtain ⟨T8, X8, e8, st8⟩ := getS2 X7 hx hZ hown (host := "") (Or.inl (hw _ (List.mem_of_getElem? (i := 50) rfl))) Via.refl eq7 SL (g := (mkF m 43 #[.val (.ref o0), .val (.int p1), .val (.int p2), .val (.int (own_mn p2 (p1 + (998 : Int32)))), .val (.int (0 : Int32))] [(.int (own_lc (wl (f + 0))))])) rfl (hb hby d8_43)
    refine Runs.by st8 ?_
    refine Runs.by (fun _ hr => XS.iload X8.here hx rfl (hb hby d8_46) rfl  hr) ?_
    show Runs p e below _ (T8.setTop (mkF m 48 #[.val (.ref o0), .val (.int p1), .val (.int p2), .val (.int (own_mn p2 (p1 + (998 : Int32)))), .val (.int (0 : Int32))] [(.int (0 : Int32)), (.ref lo), (.int (own_lc (wl (f + 0))))]))
    obtain ⟨cl9, Ar9, -, S9, N9', H9, -⟩ := id VL
    have hin9 : ¬ ((0 : Int32) < 0 ∨ cl9.slots.size ≤ ((0 : Int32)).toNatClampNeg) := inb_of S9 ⟨by decide, by decide⟩
    have hat9 := H9.at hin9 (v := (.int (120 : Int32))) rfl
    refine Runs.by (fun t hr => X8.baloadBytes hx (j := (0 : Int32)) (v := (.int (120 : Int32))) (by rw [e8]; exact Ar9.1) (State.isArrayOf_alike hZ.alike Ar9.2.1) Ar9.2.2 hin9 hat9 (g := (mkF m 48 #[.val (.ref o0), .val (.int p1), .val (.int p2), .val (.int (own_mn p2 (p1 + (998 : Int32)))), .val (.int (0 : Int32))] [(.int (0 : Int32)), (.ref lo), (.int (own_lc (wl (f + 0))))])) rfl rfl (hb hby d8_48) t hr) ?_
    by_cases hn0 : (own_lc (wl (f + 0))) = (120 : Int32)
    · -- pc 49: (own_lc (wl (f + 0))) = (120 : Int32)
      refine Runs.by (fun _ hr => XS.icmpYes X8.here hx rfl (pc0 := 49) (pc' := 54) rfl (hb hby d8_49) rfl (teq hn0).1 (by decide) (by decide) hr) ?_
      show Runs p e below _ (T8.setTop (mkF m 54 #[.val (.ref o0), .val (.int p1), .val (.int p2), .val (.int (own_mn p2 (p1 + (998 : Int32)))), .val (.int (0 : Int32))] []))
      refine Runs.by (fun _ hr => XS.iinc X8.here hx rfl (hb hby d8_54) rfl (l' := #[.val (.ref o0), .val (.int p1), .val (.int p2), .val (.int (own_mn p2 (p1 + (998 : Int32)))), .val (.int (1 : Int32))]) rfl hr) ?_
      refine Runs.by (fun _ hr => XS.goto X8.here hx rfl (pc0 := 57) (pc' := 25) rfl (hb hby d8_57) (by decide) (by decide) hr) ?_
      refine Runs.by (fun _ hr => XS.iload X8.here hx rfl (hb hby d8_25) rfl  hr) ?_
      show Runs p e below _ (T8.setTop (mkF m 27 #[.val (.ref o0), .val (.int p1), .val (.int p2), .val (.int (own_mn p2 (p1 + (998 : Int32)))), .val (.int (1 : Int32))] [(.int (1 : Int32))]))
      obtain ⟨T10, X10, e10, st10⟩ := getS2 X8 hx hZ hown (host := "") (Or.inl (hw _ (List.mem_of_getElem? (i := 50) rfl))) Via.refl e8 SL (g := (mkF m 27 #[.val (.ref o0), .val (.int p1), .val (.int p2), .val (.int (own_mn p2 (p1 + (998 : Int32)))), .val (.int (1 : Int32))] [(.int (1 : Int32))])) rfl (hb hby d8_27)
      refine Runs.by st10 ?_
      show Runs p e below _ (T10.setTop (mkF m 30 #[.val (.ref o0), .val (.int p1), .val (.int p2), .val (.int (own_mn p2 (p1 + (998 : Int32)))), .val (.int (1 : Int32))] [(.ref lo), (.int (1 : Int32))]))
      obtain ⟨cl11, Ar11, -, S11, N11', -, -⟩ := id VL
      refine Runs.by (fun t hr => X10.arraylength hx (by rw [e10]; exact Ar11.1) (State.isArrayOf_alike hZ.alike Ar11.2.1) (g := (mkF m 30 #[.val (.ref o0), .val (.int p1), .val (.int p2), .val (.int (own_mn p2 (p1 + (998 : Int32)))), .val (.int (1 : Int32))] [(.ref lo), (.int (1 : Int32))])) rfl rfl (hb hby d8_30) t hr) ?_
      rw [len_of S11 N11']
      have hc31 : (1 : Int32) < (11 : Int32) := (by decide)
      refine Runs.by (fun _ hr => XS.icmpNo X10.here hx rfl (hb hby d8_31) rfl (tlt hc31).2.1 hr) ?_
      refine Runs.by (fun _ hr => XS.aloadN X10.here hx rfl (hb hby d8_34) rfl rfl hr) ?_
      show Runs p e below _ (T10.setTop (mkF m 35 #[.val (.ref o0), .val (.int p1), .val (.int p2), .val (.int (own_mn p2 (p1 + (998 : Int32)))), .val (.int (1 : Int32))] [(.ref o0)]))
      refine Runs.by (fun _ hr => XS.iloadN X10.here hx rfl (hb hby d8_35) rfl  hr) ?_
      refine Runs.by (fun _ hr => XS.iload X10.here hx rfl (hb hby d8_36) rfl  hr) ?_
      refine Runs.by (fun _ hr => XS.iadd X10.here hx rfl (hb hby d8_38) rfl hr) ?_
      show Runs p e below _ (T10.setTop (mkF m 39 #[.val (.ref o0), .val (.int p1), .val (.int p2), .val (.int (own_mn p2 (p1 + (998 : Int32)))), .val (.int (1 : Int32))] [(.int (p1 + (1 : Int32))), (.ref o0)]))
      obtain ⟨cl12, Ar12, -, S12, N12', H12⟩ := id GL
      have ix12 := own_ix (j := (p1 + (1 : Int32))) (z := (24 : Int32)) (n := f + 1) (own_ad hf h3 (n := 1) (by decide) (by decide)) (own_ad24 hf h3 (n := 1) (by decide) (by decide))
      have hin12 : ¬ ((p1 + (1 : Int32)) < 0 ∨ cl12.slots.size ≤ ((p1 + (1 : Int32))).toNatClampNeg) := inb_of S12 ix12.1
      have hat12 : cl12.slots[((p1 + (1 : Int32))).toNatClampNeg]? = some (.int (wl (f + 1))) := by rw [ix12.2.1]; exact H12 _ ix12.2.2
      refine Runs.by (fun t hr => X10.baloadBytes hx (j := (p1 + (1 : Int32))) (v := (.int (wl (f + 1)))) (by rw [e10]; exact Ar12.1) (State.isArrayOf_alike hZ.alike Ar12.2.1) Ar12.2.2 hin12 hat12 (g := (mkF m 39 #[.val (.ref o0), .val (.int p1), .val (.int p2), .val (.int (own_mn p2 (p1 + (998 : Int32)))), .val (.int (1 : Int32))] [(.int (p1 + (1 : Int32))), (.ref o0)])) rfl rfl (hb hby d8_39) t hr) ?_
      show Runs p e below _ (T10.setTop (mkF m 40 #[.val (.ref o0), .val (.int p1), .val (.int p2), .val (.int (own_mn p2 (p1 + (998 : Int32)))), .val (.int (1 : Int32))] [(.int (wl (f + 1)))]))
      obtain ⟨_, _, ⟨T13, L13, k13, n13⟩, -, X13, ⟨Lc13, hQ13, l13, y13, z13⟩, st13⟩ := Jvm.LawKit.callS X10 hx (y := (⟨"com/example/word_odds/wordodds/filter/VerdictField", "lowerCase", "(B)B"⟩ : MethodName)) hown (mvT hZ (hw _ (List.mem_of_getElem? (i := 60) rfl))) (mvT hZ (hw _ (List.mem_of_getElem? (i := 61) rfl))) (mvT hZ (hw _ (List.mem_of_getElem? (i := 44) rfl))) (mvT hZ (hw _ (List.mem_of_getElem? (i := 62) rfl))) (by decide) (backOf (W := 0) (rm11 l Z a0 hw [] (wl (f + 1))  h0 n0 (Nat.le_trans Z0 K0.1) (hwb _)) hZ (hw _ (List.mem_of_getElem? (i := 62) rfl)) (hw _ (List.mem_of_getElem? (i := 44) rfl)) (by decide) (by decide)) (g := (mkF m 40 #[.val (.ref o0), .val (.int p1), .val (.int p2), .val (.int (own_mn p2 (p1 + (998 : Int32)))), .val (.int (1 : Int32))] [(.int (wl (f + 1)))])) rfl (by rw [hml]; rfl) (argsL := [(.int (wl (f + 1)))]) (rest := []) (lenOf pd_6 rfl) rfl (by show 2 * 0 + _ ≤ _; exact Nat.le_of_eq rfl) (hb hby d8_40) (fun _ _ => ⟨rfl, e10, (by decide : 0 + 0 ≤ _), (by decide : 0 + 0 ≤ _)⟩)
      dsimp only [Pt.U, Pt.locs, Pt.cells, Pt.slots] at X13 l13 y13 z13 st13 hQ13
      subst l13 y13 z13
      obtain ⟨rfl, Nq13, eq13⟩ := hQ13
      have N13 := Fr.app N7 Nq13
      refine Runs.by (fun t hr => st13 t hr) ?_
      show Runs p e below _ (T13.setTop (mkF m 43 #[.val (.ref o0), .val (.int p1), .val (.int p2), .val (.int (own_mn p2 (p1 + (998 : Int32)))), .val (.int (1 : Int32))] [(.int (own_lc (wl (f + 1))))]))
      obtain ⟨T14, X14, e14, st14⟩ := getS2 X13 hx hZ hown (host := "") (Or.inl (hw _ (List.mem_of_getElem? (i := 50) rfl))) Via.refl eq13 SL (g := (mkF m 43 #[.val (.ref o0), .val (.int p1), .val (.int p2), .val (.int (own_mn p2 (p1 + (998 : Int32)))), .val (.int (1 : Int32))] [(.int (own_lc (wl (f + 1))))])) rfl (hb hby d8_43)
      refine Runs.by st14 ?_
      refine Runs.by (fun _ hr => XS.iload X14.here hx rfl (hb hby d8_46) rfl  hr) ?_
      show Runs p e below _ (T14.setTop (mkF m 48 #[.val (.ref o0), .val (.int p1), .val (.int p2), .val (.int (own_mn p2 (p1 + (998 : Int32)))), .val (.int (1 : Int32))] [(.int (1 : Int32)), (.ref lo), (.int (own_lc (wl (f + 1))))]))
      obtain ⟨cl15, Ar15, -, S15, N15', H15, -⟩ := id VL
      have hin15 : ¬ ((1 : Int32) < 0 ∨ cl15.slots.size ≤ ((1 : Int32)).toNatClampNeg) := inb_of S15 ⟨by decide, by decide⟩
      have hat15 := H15.at hin15 (v := (.int (45 : Int32))) rfl
      refine Runs.by (fun t hr => X14.baloadBytes hx (j := (1 : Int32)) (v := (.int (45 : Int32))) (by rw [e14]; exact Ar15.1) (State.isArrayOf_alike hZ.alike Ar15.2.1) Ar15.2.2 hin15 hat15 (g := (mkF m 48 #[.val (.ref o0), .val (.int p1), .val (.int p2), .val (.int (own_mn p2 (p1 + (998 : Int32)))), .val (.int (1 : Int32))] [(.int (1 : Int32)), (.ref lo), (.int (own_lc (wl (f + 1))))])) rfl rfl (hb hby d8_48) t hr) ?_
      by_cases hn1 : (own_lc (wl (f + 1))) = (45 : Int32)
      · -- pc 49: (own_lc (wl (f + 1))) = (45 : Int32)
        refine Runs.by (fun _ hr => XS.icmpYes X14.here hx rfl (pc0 := 49) (pc' := 54) rfl (hb hby d8_49) rfl (teq hn1).1 (by decide) (by decide) hr) ?_
        show Runs p e below _ (T14.setTop (mkF m 54 #[.val (.ref o0), .val (.int p1), .val (.int p2), .val (.int (own_mn p2 (p1 + (998 : Int32)))), .val (.int (1 : Int32))] []))
        refine Runs.by (fun _ hr => XS.iinc X14.here hx rfl (hb hby d8_54) rfl (l' := #[.val (.ref o0), .val (.int p1), .val (.int p2), .val (.int (own_mn p2 (p1 + (998 : Int32)))), .val (.int (2 : Int32))]) rfl hr) ?_
        refine Runs.by (fun _ hr => XS.goto X14.here hx rfl (pc0 := 57) (pc' := 25) rfl (hb hby d8_57) (by decide) (by decide) hr) ?_
        refine Runs.by (fun _ hr => XS.iload X14.here hx rfl (hb hby d8_25) rfl  hr) ?_
        show Runs p e below _ (T14.setTop (mkF m 27 #[.val (.ref o0), .val (.int p1), .val (.int p2), .val (.int (own_mn p2 (p1 + (998 : Int32)))), .val (.int (2 : Int32))] [(.int (2 : Int32))]))
        obtain ⟨T16, X16, e16, st16⟩ := getS2 X14 hx hZ hown (host := "") (Or.inl (hw _ (List.mem_of_getElem? (i := 50) rfl))) Via.refl e14 SL (g := (mkF m 27 #[.val (.ref o0), .val (.int p1), .val (.int p2), .val (.int (own_mn p2 (p1 + (998 : Int32)))), .val (.int (2 : Int32))] [(.int (2 : Int32))])) rfl (hb hby d8_27)
        refine Runs.by st16 ?_
        show Runs p e below _ (T16.setTop (mkF m 30 #[.val (.ref o0), .val (.int p1), .val (.int p2), .val (.int (own_mn p2 (p1 + (998 : Int32)))), .val (.int (2 : Int32))] [(.ref lo), (.int (2 : Int32))]))
        obtain ⟨cl17, Ar17, -, S17, N17', -, -⟩ := id VL
        refine Runs.by (fun t hr => X16.arraylength hx (by rw [e16]; exact Ar17.1) (State.isArrayOf_alike hZ.alike Ar17.2.1) (g := (mkF m 30 #[.val (.ref o0), .val (.int p1), .val (.int p2), .val (.int (own_mn p2 (p1 + (998 : Int32)))), .val (.int (2 : Int32))] [(.ref lo), (.int (2 : Int32))])) rfl rfl (hb hby d8_30) t hr) ?_
        rw [len_of S17 N17']
        have hc31 : (2 : Int32) < (11 : Int32) := (by decide)
        refine Runs.by (fun _ hr => XS.icmpNo X16.here hx rfl (hb hby d8_31) rfl (tlt hc31).2.1 hr) ?_
        refine Runs.by (fun _ hr => XS.aloadN X16.here hx rfl (hb hby d8_34) rfl rfl hr) ?_
        show Runs p e below _ (T16.setTop (mkF m 35 #[.val (.ref o0), .val (.int p1), .val (.int p2), .val (.int (own_mn p2 (p1 + (998 : Int32)))), .val (.int (2 : Int32))] [(.ref o0)]))
        refine Runs.by (fun _ hr => XS.iloadN X16.here hx rfl (hb hby d8_35) rfl  hr) ?_
        refine Runs.by (fun _ hr => XS.iload X16.here hx rfl (hb hby d8_36) rfl  hr) ?_
        refine Runs.by (fun _ hr => XS.iadd X16.here hx rfl (hb hby d8_38) rfl hr) ?_
        show Runs p e below _ (T16.setTop (mkF m 39 #[.val (.ref o0), .val (.int p1), .val (.int p2), .val (.int (own_mn p2 (p1 + (998 : Int32)))), .val (.int (2 : Int32))] [(.int (p1 + (2 : Int32))), (.ref o0)]))
        obtain ⟨cl18, Ar18, -, S18, N18', H18⟩ := id GL
        have ix18 := own_ix (j := (p1 + (2 : Int32))) (z := (24 : Int32)) (n := f + 2) (own_ad hf h3 (n := 2) (by decide) (by decide)) (own_ad24 hf h3 (n := 2) (by decide) (by decide))
        have hin18 : ¬ ((p1 + (2 : Int32)) < 0 ∨ cl18.slots.size ≤ ((p1 + (2 : Int32))).toNatClampNeg) := inb_of S18 ix18.1
        have hat18 : cl18.slots[((p1 + (2 : Int32))).toNatClampNeg]? = some (.int (wl (f + 2))) := by rw [ix18.2.1]; exact H18 _ ix18.2.2
        refine Runs.by (fun t hr => X16.baloadBytes hx (j := (p1 + (2 : Int32))) (v := (.int (wl (f + 2)))) (by rw [e16]; exact Ar18.1) (State.isArrayOf_alike hZ.alike Ar18.2.1) Ar18.2.2 hin18 hat18 (g := (mkF m 39 #[.val (.ref o0), .val (.int p1), .val (.int p2), .val (.int (own_mn p2 (p1 + (998 : Int32)))), .val (.int (2 : Int32))] [(.int (p1 + (2 : Int32))), (.ref o0)])) rfl rfl (hb hby d8_39) t hr) ?_
        show Runs p e below _ (T16.setTop (mkF m 40 #[.val (.ref o0), .val (.int p1), .val (.int p2), .val (.int (own_mn p2 (p1 + (998 : Int32)))), .val (.int (2 : Int32))] [(.int (wl (f + 2)))]))
        obtain ⟨_, _, ⟨T19, L19, k19, n19⟩, -, X19, ⟨Lc19, hQ19, l19, y19, z19⟩, st19⟩ := Jvm.LawKit.callS X16 hx (y := (⟨"com/example/word_odds/wordodds/filter/VerdictField", "lowerCase", "(B)B"⟩ : MethodName)) hown (mvT hZ (hw _ (List.mem_of_getElem? (i := 60) rfl))) (mvT hZ (hw _ (List.mem_of_getElem? (i := 61) rfl))) (mvT hZ (hw _ (List.mem_of_getElem? (i := 44) rfl))) (mvT hZ (hw _ (List.mem_of_getElem? (i := 62) rfl))) (by decide) (backOf (W := 0) (rm11 l Z a0 hw [] (wl (f + 2))  h0 n0 (Nat.le_trans Z0 K0.1) (hwb _)) hZ (hw _ (List.mem_of_getElem? (i := 62) rfl)) (hw _ (List.mem_of_getElem? (i := 44) rfl)) (by decide) (by decide)) (g := (mkF m 40 #[.val (.ref o0), .val (.int p1), .val (.int p2), .val (.int (own_mn p2 (p1 + (998 : Int32)))), .val (.int (2 : Int32))] [(.int (wl (f + 2)))])) rfl (by rw [hml]; rfl) (argsL := [(.int (wl (f + 2)))]) (rest := []) (lenOf pd_6 rfl) rfl (by show 2 * 0 + _ ≤ _; exact Nat.le_of_eq rfl) (hb hby d8_40) (fun _ _ => ⟨rfl, e16, (by decide : 0 + 0 ≤ _), (by decide : 0 + 0 ≤ _)⟩)
        dsimp only [Pt.U, Pt.locs, Pt.cells, Pt.slots] at X19 l19 y19 z19 st19 hQ19
        subst l19 y19 z19
        obtain ⟨rfl, Nq19, eq19⟩ := hQ19
        have N19 := Fr.app N13 Nq19
        refine Runs.by (fun t hr => st19 t hr) ?_
        show Runs p e below _ (T19.setTop (mkF m 43 #[.val (.ref o0), .val (.int p1), .val (.int p2), .val (.int (own_mn p2 (p1 + (998 : Int32)))), .val (.int (2 : Int32))] [(.int (own_lc (wl (f + 2))))]))
        obtain ⟨T20, X20, e20, st20⟩ := getS2 X19 hx hZ hown (host := "") (Or.inl (hw _ (List.mem_of_getElem? (i := 50) rfl))) Via.refl eq19 SL (g := (mkF m 43 #[.val (.ref o0), .val (.int p1), .val (.int p2), .val (.int (own_mn p2 (p1 + (998 : Int32)))), .val (.int (2 : Int32))] [(.int (own_lc (wl (f + 2))))])) rfl (hb hby d8_43)
        refine Runs.by st20 ?_
        refine Runs.by (fun _ hr => XS.iload X20.here hx rfl (hb hby d8_46) rfl  hr) ?_
        show Runs p e below _ (T20.setTop (mkF m 48 #[.val (.ref o0), .val (.int p1), .val (.int p2), .val (.int (own_mn p2 (p1 + (998 : Int32)))), .val (.int (2 : Int32))] [(.int (2 : Int32)), (.ref lo), (.int (own_lc (wl (f + 2))))]))
        obtain ⟨cl21, Ar21, -, S21, N21', H21, -⟩ := id VL
        have hin21 : ¬ ((2 : Int32) < 0 ∨ cl21.slots.size ≤ ((2 : Int32)).toNatClampNeg) := inb_of S21 ⟨by decide, by decide⟩
        have hat21 := H21.at hin21 (v := (.int (119 : Int32))) rfl
        refine Runs.by (fun t hr => X20.baloadBytes hx (j := (2 : Int32)) (v := (.int (119 : Int32))) (by rw [e20]; exact Ar21.1) (State.isArrayOf_alike hZ.alike Ar21.2.1) Ar21.2.2 hin21 hat21 (g := (mkF m 48 #[.val (.ref o0), .val (.int p1), .val (.int p2), .val (.int (own_mn p2 (p1 + (998 : Int32)))), .val (.int (2 : Int32))] [(.int (2 : Int32)), (.ref lo), (.int (own_lc (wl (f + 2))))])) rfl rfl (hb hby d8_48) t hr) ?_
        by_cases hn2 : (own_lc (wl (f + 2))) = (119 : Int32)
        · -- pc 49: (own_lc (wl (f + 2))) = (119 : Int32)
          refine Runs.by (fun _ hr => XS.icmpYes X20.here hx rfl (pc0 := 49) (pc' := 54) rfl (hb hby d8_49) rfl (teq hn2).1 (by decide) (by decide) hr) ?_
          show Runs p e below _ (T20.setTop (mkF m 54 #[.val (.ref o0), .val (.int p1), .val (.int p2), .val (.int (own_mn p2 (p1 + (998 : Int32)))), .val (.int (2 : Int32))] []))
          refine Runs.by (fun _ hr => XS.iinc X20.here hx rfl (hb hby d8_54) rfl (l' := #[.val (.ref o0), .val (.int p1), .val (.int p2), .val (.int (own_mn p2 (p1 + (998 : Int32)))), .val (.int (3 : Int32))]) rfl hr) ?_
          refine Runs.by (fun _ hr => XS.goto X20.here hx rfl (pc0 := 57) (pc' := 25) rfl (hb hby d8_57) (by decide) (by decide) hr) ?_
          refine Runs.by (fun _ hr => XS.iload X20.here hx rfl (hb hby d8_25) rfl  hr) ?_
          show Runs p e below _ (T20.setTop (mkF m 27 #[.val (.ref o0), .val (.int p1), .val (.int p2), .val (.int (own_mn p2 (p1 + (998 : Int32)))), .val (.int (3 : Int32))] [(.int (3 : Int32))]))
          obtain ⟨T22, X22, e22, st22⟩ := getS2 X20 hx hZ hown (host := "") (Or.inl (hw _ (List.mem_of_getElem? (i := 50) rfl))) Via.refl e20 SL (g := (mkF m 27 #[.val (.ref o0), .val (.int p1), .val (.int p2), .val (.int (own_mn p2 (p1 + (998 : Int32)))), .val (.int (3 : Int32))] [(.int (3 : Int32))])) rfl (hb hby d8_27)
          refine Runs.by st22 ?_
          show Runs p e below _ (T22.setTop (mkF m 30 #[.val (.ref o0), .val (.int p1), .val (.int p2), .val (.int (own_mn p2 (p1 + (998 : Int32)))), .val (.int (3 : Int32))] [(.ref lo), (.int (3 : Int32))]))
          obtain ⟨cl23, Ar23, -, S23, N23', -, -⟩ := id VL
          refine Runs.by (fun t hr => X22.arraylength hx (by rw [e22]; exact Ar23.1) (State.isArrayOf_alike hZ.alike Ar23.2.1) (g := (mkF m 30 #[.val (.ref o0), .val (.int p1), .val (.int p2), .val (.int (own_mn p2 (p1 + (998 : Int32)))), .val (.int (3 : Int32))] [(.ref lo), (.int (3 : Int32))])) rfl rfl (hb hby d8_30) t hr) ?_
          rw [len_of S23 N23']
          have hc31 : (3 : Int32) < (11 : Int32) := (by decide)
          refine Runs.by (fun _ hr => XS.icmpNo X22.here hx rfl (hb hby d8_31) rfl (tlt hc31).2.1 hr) ?_
          refine Runs.by (fun _ hr => XS.aloadN X22.here hx rfl (hb hby d8_34) rfl rfl hr) ?_
          show Runs p e below _ (T22.setTop (mkF m 35 #[.val (.ref o0), .val (.int p1), .val (.int p2), .val (.int (own_mn p2 (p1 + (998 : Int32)))), .val (.int (3 : Int32))] [(.ref o0)]))
          refine Runs.by (fun _ hr => XS.iloadN X22.here hx rfl (hb hby d8_35) rfl  hr) ?_
          refine Runs.by (fun _ hr => XS.iload X22.here hx rfl (hb hby d8_36) rfl  hr) ?_
          refine Runs.by (fun _ hr => XS.iadd X22.here hx rfl (hb hby d8_38) rfl hr) ?_
          show Runs p e below _ (T22.setTop (mkF m 39 #[.val (.ref o0), .val (.int p1), .val (.int p2), .val (.int (own_mn p2 (p1 + (998 : Int32)))), .val (.int (3 : Int32))] [(.int (p1 + (3 : Int32))), (.ref o0)]))
          obtain ⟨cl24, Ar24, -, S24, N24', H24⟩ := id GL
          have ix24 := own_ix (j := (p1 + (3 : Int32))) (z := (24 : Int32)) (n := f + 3) (own_ad hf h3 (n := 3) (by decide) (by decide)) (own_ad24 hf h3 (n := 3) (by decide) (by decide))
          have hin24 : ¬ ((p1 + (3 : Int32)) < 0 ∨ cl24.slots.size ≤ ((p1 + (3 : Int32))).toNatClampNeg) := inb_of S24 ix24.1
          have hat24 : cl24.slots[((p1 + (3 : Int32))).toNatClampNeg]? = some (.int (wl (f + 3))) := by rw [ix24.2.1]; exact H24 _ ix24.2.2
          refine Runs.by (fun t hr => X22.baloadBytes hx (j := (p1 + (3 : Int32))) (v := (.int (wl (f + 3)))) (by rw [e22]; exact Ar24.1) (State.isArrayOf_alike hZ.alike Ar24.2.1) Ar24.2.2 hin24 hat24 (g := (mkF m 39 #[.val (.ref o0), .val (.int p1), .val (.int p2), .val (.int (own_mn p2 (p1 + (998 : Int32)))), .val (.int (3 : Int32))] [(.int (p1 + (3 : Int32))), (.ref o0)])) rfl rfl (hb hby d8_39) t hr) ?_
          show Runs p e below _ (T22.setTop (mkF m 40 #[.val (.ref o0), .val (.int p1), .val (.int p2), .val (.int (own_mn p2 (p1 + (998 : Int32)))), .val (.int (3 : Int32))] [(.int (wl (f + 3)))]))
          obtain ⟨_, _, ⟨T25, L25, k25, n25⟩, -, X25, ⟨Lc25, hQ25, l25, y25, z25⟩, st25⟩ := Jvm.LawKit.callS X22 hx (y := (⟨"com/example/word_odds/wordodds/filter/VerdictField", "lowerCase", "(B)B"⟩ : MethodName)) hown (mvT hZ (hw _ (List.mem_of_getElem? (i := 60) rfl))) (mvT hZ (hw _ (List.mem_of_getElem? (i := 61) rfl))) (mvT hZ (hw _ (List.mem_of_getElem? (i := 44) rfl))) (mvT hZ (hw _ (List.mem_of_getElem? (i := 62) rfl))) (by decide) (backOf (W := 0) (rm11 l Z a0 hw [] (wl (f + 3))  h0 n0 (Nat.le_trans Z0 K0.1) (hwb _)) hZ (hw _ (List.mem_of_getElem? (i := 62) rfl)) (hw _ (List.mem_of_getElem? (i := 44) rfl)) (by decide) (by decide)) (g := (mkF m 40 #[.val (.ref o0), .val (.int p1), .val (.int p2), .val (.int (own_mn p2 (p1 + (998 : Int32)))), .val (.int (3 : Int32))] [(.int (wl (f + 3)))])) rfl (by rw [hml]; rfl) (argsL := [(.int (wl (f + 3)))]) (rest := []) (lenOf pd_6 rfl) rfl (by show 2 * 0 + _ ≤ _; exact Nat.le_of_eq rfl) (hb hby d8_40) (fun _ _ => ⟨rfl, e22, (by decide : 0 + 0 ≤ _), (by decide : 0 + 0 ≤ _)⟩)
          dsimp only [Pt.U, Pt.locs, Pt.cells, Pt.slots] at X25 l25 y25 z25 st25 hQ25
          subst l25 y25 z25
          obtain ⟨rfl, Nq25, eq25⟩ := hQ25
          have N25 := Fr.app N19 Nq25
          refine Runs.by (fun t hr => st25 t hr) ?_
          show Runs p e below _ (T25.setTop (mkF m 43 #[.val (.ref o0), .val (.int p1), .val (.int p2), .val (.int (own_mn p2 (p1 + (998 : Int32)))), .val (.int (3 : Int32))] [(.int (own_lc (wl (f + 3))))]))
          obtain ⟨T26, X26, e26, st26⟩ := getS2 X25 hx hZ hown (host := "") (Or.inl (hw _ (List.mem_of_getElem? (i := 50) rfl))) Via.refl eq25 SL (g := (mkF m 43 #[.val (.ref o0), .val (.int p1), .val (.int p2), .val (.int (own_mn p2 (p1 + (998 : Int32)))), .val (.int (3 : Int32))] [(.int (own_lc (wl (f + 3))))])) rfl (hb hby d8_43)
          refine Runs.by st26 ?_
          refine Runs.by (fun _ hr => XS.iload X26.here hx rfl (hb hby d8_46) rfl  hr) ?_
          show Runs p e below _ (T26.setTop (mkF m 48 #[.val (.ref o0), .val (.int p1), .val (.int p2), .val (.int (own_mn p2 (p1 + (998 : Int32)))), .val (.int (3 : Int32))] [(.int (3 : Int32)), (.ref lo), (.int (own_lc (wl (f + 3))))]))
          obtain ⟨cl27, Ar27, -, S27, N27', H27, -⟩ := id VL
          have hin27 : ¬ ((3 : Int32) < 0 ∨ cl27.slots.size ≤ ((3 : Int32)).toNatClampNeg) := inb_of S27 ⟨by decide, by decide⟩
          have hat27 := H27.at hin27 (v := (.int (111 : Int32))) rfl
          refine Runs.by (fun t hr => X26.baloadBytes hx (j := (3 : Int32)) (v := (.int (111 : Int32))) (by rw [e26]; exact Ar27.1) (State.isArrayOf_alike hZ.alike Ar27.2.1) Ar27.2.2 hin27 hat27 (g := (mkF m 48 #[.val (.ref o0), .val (.int p1), .val (.int p2), .val (.int (own_mn p2 (p1 + (998 : Int32)))), .val (.int (3 : Int32))] [(.int (3 : Int32)), (.ref lo), (.int (own_lc (wl (f + 3))))])) rfl rfl (hb hby d8_48) t hr) ?_
          by_cases hn3 : (own_lc (wl (f + 3))) = (111 : Int32)
          · -- pc 49: (own_lc (wl (f + 3))) = (111 : Int32)
            refine Runs.by (fun _ hr => XS.icmpYes X26.here hx rfl (pc0 := 49) (pc' := 54) rfl (hb hby d8_49) rfl (teq hn3).1 (by decide) (by decide) hr) ?_
            show Runs p e below _ (T26.setTop (mkF m 54 #[.val (.ref o0), .val (.int p1), .val (.int p2), .val (.int (own_mn p2 (p1 + (998 : Int32)))), .val (.int (3 : Int32))] []))
            refine Runs.by (fun _ hr => XS.iinc X26.here hx rfl (hb hby d8_54) rfl (l' := #[.val (.ref o0), .val (.int p1), .val (.int p2), .val (.int (own_mn p2 (p1 + (998 : Int32)))), .val (.int (4 : Int32))]) rfl hr) ?_
            refine Runs.by (fun _ hr => XS.goto X26.here hx rfl (pc0 := 57) (pc' := 25) rfl (hb hby d8_57) (by decide) (by decide) hr) ?_
            refine Runs.by (fun _ hr => XS.iload X26.here hx rfl (hb hby d8_25) rfl  hr) ?_
            show Runs p e below _ (T26.setTop (mkF m 27 #[.val (.ref o0), .val (.int p1), .val (.int p2), .val (.int (own_mn p2 (p1 + (998 : Int32)))), .val (.int (4 : Int32))] [(.int (4 : Int32))]))
            obtain ⟨T28, X28, e28, st28⟩ := getS2 X26 hx hZ hown (host := "") (Or.inl (hw _ (List.mem_of_getElem? (i := 50) rfl))) Via.refl e26 SL (g := (mkF m 27 #[.val (.ref o0), .val (.int p1), .val (.int p2), .val (.int (own_mn p2 (p1 + (998 : Int32)))), .val (.int (4 : Int32))] [(.int (4 : Int32))])) rfl (hb hby d8_27)
            refine Runs.by st28 ?_
            show Runs p e below _ (T28.setTop (mkF m 30 #[.val (.ref o0), .val (.int p1), .val (.int p2), .val (.int (own_mn p2 (p1 + (998 : Int32)))), .val (.int (4 : Int32))] [(.ref lo), (.int (4 : Int32))]))
            obtain ⟨cl29, Ar29, -, S29, N29', -, -⟩ := id VL
            refine Runs.by (fun t hr => X28.arraylength hx (by rw [e28]; exact Ar29.1) (State.isArrayOf_alike hZ.alike Ar29.2.1) (g := (mkF m 30 #[.val (.ref o0), .val (.int p1), .val (.int p2), .val (.int (own_mn p2 (p1 + (998 : Int32)))), .val (.int (4 : Int32))] [(.ref lo), (.int (4 : Int32))])) rfl rfl (hb hby d8_30) t hr) ?_
            rw [len_of S29 N29']
            have hc31 : (4 : Int32) < (11 : Int32) := (by decide)
            refine Runs.by (fun _ hr => XS.icmpNo X28.here hx rfl (hb hby d8_31) rfl (tlt hc31).2.1 hr) ?_
            refine Runs.by (fun _ hr => XS.aloadN X28.here hx rfl (hb hby d8_34) rfl rfl hr) ?_
            show Runs p e below _ (T28.setTop (mkF m 35 #[.val (.ref o0), .val (.int p1), .val (.int p2), .val (.int (own_mn p2 (p1 + (998 : Int32)))), .val (.int (4 : Int32))] [(.ref o0)]))
            refine Runs.by (fun _ hr => XS.iloadN X28.here hx rfl (hb hby d8_35) rfl  hr) ?_
            refine Runs.by (fun _ hr => XS.iload X28.here hx rfl (hb hby d8_36) rfl  hr) ?_
            refine Runs.by (fun _ hr => XS.iadd X28.here hx rfl (hb hby d8_38) rfl hr) ?_
            show Runs p e below _ (T28.setTop (mkF m 39 #[.val (.ref o0), .val (.int p1), .val (.int p2), .val (.int (own_mn p2 (p1 + (998 : Int32)))), .val (.int (4 : Int32))] [(.int (p1 + (4 : Int32))), (.ref o0)]))
            obtain ⟨cl30, Ar30, -, S30, N30', H30⟩ := id GL
            have ix30 := own_ix (j := (p1 + (4 : Int32))) (z := (24 : Int32)) (n := f + 4) (own_ad hf h3 (n := 4) (by decide) (by decide)) (own_ad24 hf h3 (n := 4) (by decide) (by decide))
            have hin30 : ¬ ((p1 + (4 : Int32)) < 0 ∨ cl30.slots.size ≤ ((p1 + (4 : Int32))).toNatClampNeg) := inb_of S30 ix30.1
            have hat30 : cl30.slots[((p1 + (4 : Int32))).toNatClampNeg]? = some (.int (wl (f + 4))) := by rw [ix30.2.1]; exact H30 _ ix30.2.2
            refine Runs.by (fun t hr => X28.baloadBytes hx (j := (p1 + (4 : Int32))) (v := (.int (wl (f + 4)))) (by rw [e28]; exact Ar30.1) (State.isArrayOf_alike hZ.alike Ar30.2.1) Ar30.2.2 hin30 hat30 (g := (mkF m 39 #[.val (.ref o0), .val (.int p1), .val (.int p2), .val (.int (own_mn p2 (p1 + (998 : Int32)))), .val (.int (4 : Int32))] [(.int (p1 + (4 : Int32))), (.ref o0)])) rfl rfl (hb hby d8_39) t hr) ?_
            show Runs p e below _ (T28.setTop (mkF m 40 #[.val (.ref o0), .val (.int p1), .val (.int p2), .val (.int (own_mn p2 (p1 + (998 : Int32)))), .val (.int (4 : Int32))] [(.int (wl (f + 4)))]))
            obtain ⟨_, _, ⟨T31, L31, k31, n31⟩, -, X31, ⟨Lc31, hQ31, l31, y31, z31⟩, st31⟩ := Jvm.LawKit.callS X28 hx (y := (⟨"com/example/word_odds/wordodds/filter/VerdictField", "lowerCase", "(B)B"⟩ : MethodName)) hown (mvT hZ (hw _ (List.mem_of_getElem? (i := 60) rfl))) (mvT hZ (hw _ (List.mem_of_getElem? (i := 61) rfl))) (mvT hZ (hw _ (List.mem_of_getElem? (i := 44) rfl))) (mvT hZ (hw _ (List.mem_of_getElem? (i := 62) rfl))) (by decide) (backOf (W := 0) (rm11 l Z a0 hw [] (wl (f + 4))  h0 n0 (Nat.le_trans Z0 K0.1) (hwb _)) hZ (hw _ (List.mem_of_getElem? (i := 62) rfl)) (hw _ (List.mem_of_getElem? (i := 44) rfl)) (by decide) (by decide)) (g := (mkF m 40 #[.val (.ref o0), .val (.int p1), .val (.int p2), .val (.int (own_mn p2 (p1 + (998 : Int32)))), .val (.int (4 : Int32))] [(.int (wl (f + 4)))])) rfl (by rw [hml]; rfl) (argsL := [(.int (wl (f + 4)))]) (rest := []) (lenOf pd_6 rfl) rfl (by show 2 * 0 + _ ≤ _; exact Nat.le_of_eq rfl) (hb hby d8_40) (fun _ _ => ⟨rfl, e28, (by decide : 0 + 0 ≤ _), (by decide : 0 + 0 ≤ _)⟩)
            dsimp only [Pt.U, Pt.locs, Pt.cells, Pt.slots] at X31 l31 y31 z31 st31 hQ31
            subst l31 y31 z31
            obtain ⟨rfl, Nq31, eq31⟩ := hQ31
            have N31 := Fr.app N25 Nq31
            refine Runs.by (fun t hr => st31 t hr) ?_
            show Runs p e below _ (T31.setTop (mkF m 43 #[.val (.ref o0), .val (.int p1), .val (.int p2), .val (.int (own_mn p2 (p1 + (998 : Int32)))), .val (.int (4 : Int32))] [(.int (own_lc (wl (f + 4))))]))
            obtain ⟨T32, X32, e32, st32⟩ := getS2 X31 hx hZ hown (host := "") (Or.inl (hw _ (List.mem_of_getElem? (i := 50) rfl))) Via.refl eq31 SL (g := (mkF m 43 #[.val (.ref o0), .val (.int p1), .val (.int p2), .val (.int (own_mn p2 (p1 + (998 : Int32)))), .val (.int (4 : Int32))] [(.int (own_lc (wl (f + 4))))])) rfl (hb hby d8_43)
            refine Runs.by st32 ?_
            refine Runs.by (fun _ hr => XS.iload X32.here hx rfl (hb hby d8_46) rfl  hr) ?_
            show Runs p e below _ (T32.setTop (mkF m 48 #[.val (.ref o0), .val (.int p1), .val (.int p2), .val (.int (own_mn p2 (p1 + (998 : Int32)))), .val (.int (4 : Int32))] [(.int (4 : Int32)), (.ref lo), (.int (own_lc (wl (f + 4))))]))
            obtain ⟨cl33, Ar33, -, S33, N33', H33, -⟩ := id VL
            have hin33 : ¬ ((4 : Int32) < 0 ∨ cl33.slots.size ≤ ((4 : Int32)).toNatClampNeg) := inb_of S33 ⟨by decide, by decide⟩
            have hat33 := H33.at hin33 (v := (.int (114 : Int32))) rfl
            refine Runs.by (fun t hr => X32.baloadBytes hx (j := (4 : Int32)) (v := (.int (114 : Int32))) (by rw [e32]; exact Ar33.1) (State.isArrayOf_alike hZ.alike Ar33.2.1) Ar33.2.2 hin33 hat33 (g := (mkF m 48 #[.val (.ref o0), .val (.int p1), .val (.int p2), .val (.int (own_mn p2 (p1 + (998 : Int32)))), .val (.int (4 : Int32))] [(.int (4 : Int32)), (.ref lo), (.int (own_lc (wl (f + 4))))])) rfl rfl (hb hby d8_48) t hr) ?_
            by_cases hn4 : (own_lc (wl (f + 4))) = (114 : Int32)
            · -- pc 49: (own_lc (wl (f + 4))) = (114 : Int32)
              refine Runs.by (fun _ hr => XS.icmpYes X32.here hx rfl (pc0 := 49) (pc' := 54) rfl (hb hby d8_49) rfl (teq hn4).1 (by decide) (by decide) hr) ?_
              show Runs p e below _ (T32.setTop (mkF m 54 #[.val (.ref o0), .val (.int p1), .val (.int p2), .val (.int (own_mn p2 (p1 + (998 : Int32)))), .val (.int (4 : Int32))] []))
              refine Runs.by (fun _ hr => XS.iinc X32.here hx rfl (hb hby d8_54) rfl (l' := #[.val (.ref o0), .val (.int p1), .val (.int p2), .val (.int (own_mn p2 (p1 + (998 : Int32)))), .val (.int (5 : Int32))]) rfl hr) ?_
              refine Runs.by (fun _ hr => XS.goto X32.here hx rfl (pc0 := 57) (pc' := 25) rfl (hb hby d8_57) (by decide) (by decide) hr) ?_
              refine Runs.by (fun _ hr => XS.iload X32.here hx rfl (hb hby d8_25) rfl  hr) ?_
              show Runs p e below _ (T32.setTop (mkF m 27 #[.val (.ref o0), .val (.int p1), .val (.int p2), .val (.int (own_mn p2 (p1 + (998 : Int32)))), .val (.int (5 : Int32))] [(.int (5 : Int32))]))
              obtain ⟨T34, X34, e34, st34⟩ := getS2 X32 hx hZ hown (host := "") (Or.inl (hw _ (List.mem_of_getElem? (i := 50) rfl))) Via.refl e32 SL (g := (mkF m 27 #[.val (.ref o0), .val (.int p1), .val (.int p2), .val (.int (own_mn p2 (p1 + (998 : Int32)))), .val (.int (5 : Int32))] [(.int (5 : Int32))])) rfl (hb hby d8_27)
              refine Runs.by st34 ?_
              show Runs p e below _ (T34.setTop (mkF m 30 #[.val (.ref o0), .val (.int p1), .val (.int p2), .val (.int (own_mn p2 (p1 + (998 : Int32)))), .val (.int (5 : Int32))] [(.ref lo), (.int (5 : Int32))]))
              obtain ⟨cl35, Ar35, -, S35, N35', -, -⟩ := id VL
              refine Runs.by (fun t hr => X34.arraylength hx (by rw [e34]; exact Ar35.1) (State.isArrayOf_alike hZ.alike Ar35.2.1) (g := (mkF m 30 #[.val (.ref o0), .val (.int p1), .val (.int p2), .val (.int (own_mn p2 (p1 + (998 : Int32)))), .val (.int (5 : Int32))] [(.ref lo), (.int (5 : Int32))])) rfl rfl (hb hby d8_30) t hr) ?_
              rw [len_of S35 N35']
              have hc31 : (5 : Int32) < (11 : Int32) := (by decide)
              refine Runs.by (fun _ hr => XS.icmpNo X34.here hx rfl (hb hby d8_31) rfl (tlt hc31).2.1 hr) ?_
              refine Runs.by (fun _ hr => XS.aloadN X34.here hx rfl (hb hby d8_34) rfl rfl hr) ?_
              show Runs p e below _ (T34.setTop (mkF m 35 #[.val (.ref o0), .val (.int p1), .val (.int p2), .val (.int (own_mn p2 (p1 + (998 : Int32)))), .val (.int (5 : Int32))] [(.ref o0)]))
              refine Runs.by (fun _ hr => XS.iloadN X34.here hx rfl (hb hby d8_35) rfl  hr) ?_
              refine Runs.by (fun _ hr => XS.iload X34.here hx rfl (hb hby d8_36) rfl  hr) ?_
              refine Runs.by (fun _ hr => XS.iadd X34.here hx rfl (hb hby d8_38) rfl hr) ?_
              show Runs p e below _ (T34.setTop (mkF m 39 #[.val (.ref o0), .val (.int p1), .val (.int p2), .val (.int (own_mn p2 (p1 + (998 : Int32)))), .val (.int (5 : Int32))] [(.int (p1 + (5 : Int32))), (.ref o0)]))
              obtain ⟨cl36, Ar36, -, S36, N36', H36⟩ := id GL
              have ix36 := own_ix (j := (p1 + (5 : Int32))) (z := (24 : Int32)) (n := f + 5) (own_ad hf h3 (n := 5) (by decide) (by decide)) (own_ad24 hf h3 (n := 5) (by decide) (by decide))
              have hin36 : ¬ ((p1 + (5 : Int32)) < 0 ∨ cl36.slots.size ≤ ((p1 + (5 : Int32))).toNatClampNeg) := inb_of S36 ix36.1
              have hat36 : cl36.slots[((p1 + (5 : Int32))).toNatClampNeg]? = some (.int (wl (f + 5))) := by rw [ix36.2.1]; exact H36 _ ix36.2.2
              refine Runs.by (fun t hr => X34.baloadBytes hx (j := (p1 + (5 : Int32))) (v := (.int (wl (f + 5)))) (by rw [e34]; exact Ar36.1) (State.isArrayOf_alike hZ.alike Ar36.2.1) Ar36.2.2 hin36 hat36 (g := (mkF m 39 #[.val (.ref o0), .val (.int p1), .val (.int p2), .val (.int (own_mn p2 (p1 + (998 : Int32)))), .val (.int (5 : Int32))] [(.int (p1 + (5 : Int32))), (.ref o0)])) rfl rfl (hb hby d8_39) t hr) ?_
              show Runs p e below _ (T34.setTop (mkF m 40 #[.val (.ref o0), .val (.int p1), .val (.int p2), .val (.int (own_mn p2 (p1 + (998 : Int32)))), .val (.int (5 : Int32))] [(.int (wl (f + 5)))]))
              obtain ⟨_, _, ⟨T37, L37, k37, n37⟩, -, X37, ⟨Lc37, hQ37, l37, y37, z37⟩, st37⟩ := Jvm.LawKit.callS X34 hx (y := (⟨"com/example/word_odds/wordodds/filter/VerdictField", "lowerCase", "(B)B"⟩ : MethodName)) hown (mvT hZ (hw _ (List.mem_of_getElem? (i := 60) rfl))) (mvT hZ (hw _ (List.mem_of_getElem? (i := 61) rfl))) (mvT hZ (hw _ (List.mem_of_getElem? (i := 44) rfl))) (mvT hZ (hw _ (List.mem_of_getElem? (i := 62) rfl))) (by decide) (backOf (W := 0) (rm11 l Z a0 hw [] (wl (f + 5))  h0 n0 (Nat.le_trans Z0 K0.1) (hwb _)) hZ (hw _ (List.mem_of_getElem? (i := 62) rfl)) (hw _ (List.mem_of_getElem? (i := 44) rfl)) (by decide) (by decide)) (g := (mkF m 40 #[.val (.ref o0), .val (.int p1), .val (.int p2), .val (.int (own_mn p2 (p1 + (998 : Int32)))), .val (.int (5 : Int32))] [(.int (wl (f + 5)))])) rfl (by rw [hml]; rfl) (argsL := [(.int (wl (f + 5)))]) (rest := []) (lenOf pd_6 rfl) rfl (by show 2 * 0 + _ ≤ _; exact Nat.le_of_eq rfl) (hb hby d8_40) (fun _ _ => ⟨rfl, e34, (by decide : 0 + 0 ≤ _), (by decide : 0 + 0 ≤ _)⟩)
              dsimp only [Pt.U, Pt.locs, Pt.cells, Pt.slots] at X37 l37 y37 z37 st37 hQ37
              subst l37 y37 z37
              obtain ⟨rfl, Nq37, eq37⟩ := hQ37
              have N37 := Fr.app N31 Nq37
              refine Runs.by (fun t hr => st37 t hr) ?_
              show Runs p e below _ (T37.setTop (mkF m 43 #[.val (.ref o0), .val (.int p1), .val (.int p2), .val (.int (own_mn p2 (p1 + (998 : Int32)))), .val (.int (5 : Int32))] [(.int (own_lc (wl (f + 5))))]))
              obtain ⟨T38, X38, e38, st38⟩ := getS2 X37 hx hZ hown (host := "") (Or.inl (hw _ (List.mem_of_getElem? (i := 50) rfl))) Via.refl eq37 SL (g := (mkF m 43 #[.val (.ref o0), .val (.int p1), .val (.int p2), .val (.int (own_mn p2 (p1 + (998 : Int32)))), .val (.int (5 : Int32))] [(.int (own_lc (wl (f + 5))))])) rfl (hb hby d8_43)
              refine Runs.by st38 ?_
              refine Runs.by (fun _ hr => XS.iload X38.here hx rfl (hb hby d8_46) rfl  hr) ?_
              show Runs p e below _ (T38.setTop (mkF m 48 #[.val (.ref o0), .val (.int p1), .val (.int p2), .val (.int (own_mn p2 (p1 + (998 : Int32)))), .val (.int (5 : Int32))] [(.int (5 : Int32)), (.ref lo), (.int (own_lc (wl (f + 5))))]))
              obtain ⟨cl39, Ar39, -, S39, N39', H39, -⟩ := id VL
              have hin39 : ¬ ((5 : Int32) < 0 ∨ cl39.slots.size ≤ ((5 : Int32)).toNatClampNeg) := inb_of S39 ⟨by decide, by decide⟩
              have hat39 := H39.at hin39 (v := (.int (100 : Int32))) rfl
              refine Runs.by (fun t hr => X38.baloadBytes hx (j := (5 : Int32)) (v := (.int (100 : Int32))) (by rw [e38]; exact Ar39.1) (State.isArrayOf_alike hZ.alike Ar39.2.1) Ar39.2.2 hin39 hat39 (g := (mkF m 48 #[.val (.ref o0), .val (.int p1), .val (.int p2), .val (.int (own_mn p2 (p1 + (998 : Int32)))), .val (.int (5 : Int32))] [(.int (5 : Int32)), (.ref lo), (.int (own_lc (wl (f + 5))))])) rfl rfl (hb hby d8_48) t hr) ?_
              by_cases hn5 : (own_lc (wl (f + 5))) = (100 : Int32)
              · -- pc 49: (own_lc (wl (f + 5))) = (100 : Int32)
                refine Runs.by (fun _ hr => XS.icmpYes X38.here hx rfl (pc0 := 49) (pc' := 54) rfl (hb hby d8_49) rfl (teq hn5).1 (by decide) (by decide) hr) ?_
                show Runs p e below _ (T38.setTop (mkF m 54 #[.val (.ref o0), .val (.int p1), .val (.int p2), .val (.int (own_mn p2 (p1 + (998 : Int32)))), .val (.int (5 : Int32))] []))
                refine Runs.by (fun _ hr => XS.iinc X38.here hx rfl (hb hby d8_54) rfl (l' := #[.val (.ref o0), .val (.int p1), .val (.int p2), .val (.int (own_mn p2 (p1 + (998 : Int32)))), .val (.int (6 : Int32))]) rfl hr) ?_
                refine Runs.by (fun _ hr => XS.goto X38.here hx rfl (pc0 := 57) (pc' := 25) rfl (hb hby d8_57) (by decide) (by decide) hr) ?_
                refine Runs.by (fun _ hr => XS.iload X38.here hx rfl (hb hby d8_25) rfl  hr) ?_
                show Runs p e below _ (T38.setTop (mkF m 27 #[.val (.ref o0), .val (.int p1), .val (.int p2), .val (.int (own_mn p2 (p1 + (998 : Int32)))), .val (.int (6 : Int32))] [(.int (6 : Int32))]))
                obtain ⟨T40, X40, e40, st40⟩ := getS2 X38 hx hZ hown (host := "") (Or.inl (hw _ (List.mem_of_getElem? (i := 50) rfl))) Via.refl e38 SL (g := (mkF m 27 #[.val (.ref o0), .val (.int p1), .val (.int p2), .val (.int (own_mn p2 (p1 + (998 : Int32)))), .val (.int (6 : Int32))] [(.int (6 : Int32))])) rfl (hb hby d8_27)
                refine Runs.by st40 ?_
                show Runs p e below _ (T40.setTop (mkF m 30 #[.val (.ref o0), .val (.int p1), .val (.int p2), .val (.int (own_mn p2 (p1 + (998 : Int32)))), .val (.int (6 : Int32))] [(.ref lo), (.int (6 : Int32))]))
                obtain ⟨cl41, Ar41, -, S41, N41', -, -⟩ := id VL
                refine Runs.by (fun t hr => X40.arraylength hx (by rw [e40]; exact Ar41.1) (State.isArrayOf_alike hZ.alike Ar41.2.1) (g := (mkF m 30 #[.val (.ref o0), .val (.int p1), .val (.int p2), .val (.int (own_mn p2 (p1 + (998 : Int32)))), .val (.int (6 : Int32))] [(.ref lo), (.int (6 : Int32))])) rfl rfl (hb hby d8_30) t hr) ?_
                rw [len_of S41 N41']
                have hc31 : (6 : Int32) < (11 : Int32) := (by decide)
                refine Runs.by (fun _ hr => XS.icmpNo X40.here hx rfl (hb hby d8_31) rfl (tlt hc31).2.1 hr) ?_
                refine Runs.by (fun _ hr => XS.aloadN X40.here hx rfl (hb hby d8_34) rfl rfl hr) ?_
                show Runs p e below _ (T40.setTop (mkF m 35 #[.val (.ref o0), .val (.int p1), .val (.int p2), .val (.int (own_mn p2 (p1 + (998 : Int32)))), .val (.int (6 : Int32))] [(.ref o0)]))
                refine Runs.by (fun _ hr => XS.iloadN X40.here hx rfl (hb hby d8_35) rfl  hr) ?_
                refine Runs.by (fun _ hr => XS.iload X40.here hx rfl (hb hby d8_36) rfl  hr) ?_
                refine Runs.by (fun _ hr => XS.iadd X40.here hx rfl (hb hby d8_38) rfl hr) ?_
                show Runs p e below _ (T40.setTop (mkF m 39 #[.val (.ref o0), .val (.int p1), .val (.int p2), .val (.int (own_mn p2 (p1 + (998 : Int32)))), .val (.int (6 : Int32))] [(.int (p1 + (6 : Int32))), (.ref o0)]))
                obtain ⟨cl42, Ar42, -, S42, N42', H42⟩ := id GL
                have ix42 := own_ix (j := (p1 + (6 : Int32))) (z := (24 : Int32)) (n := f + 6) (own_ad hf h3 (n := 6) (by decide) (by decide)) (own_ad24 hf h3 (n := 6) (by decide) (by decide))
                have hin42 : ¬ ((p1 + (6 : Int32)) < 0 ∨ cl42.slots.size ≤ ((p1 + (6 : Int32))).toNatClampNeg) := inb_of S42 ix42.1
                have hat42 : cl42.slots[((p1 + (6 : Int32))).toNatClampNeg]? = some (.int (wl (f + 6))) := by rw [ix42.2.1]; exact H42 _ ix42.2.2
                refine Runs.by (fun t hr => X40.baloadBytes hx (j := (p1 + (6 : Int32))) (v := (.int (wl (f + 6)))) (by rw [e40]; exact Ar42.1) (State.isArrayOf_alike hZ.alike Ar42.2.1) Ar42.2.2 hin42 hat42 (g := (mkF m 39 #[.val (.ref o0), .val (.int p1), .val (.int p2), .val (.int (own_mn p2 (p1 + (998 : Int32)))), .val (.int (6 : Int32))] [(.int (p1 + (6 : Int32))), (.ref o0)])) rfl rfl (hb hby d8_39) t hr) ?_
                show Runs p e below _ (T40.setTop (mkF m 40 #[.val (.ref o0), .val (.int p1), .val (.int p2), .val (.int (own_mn p2 (p1 + (998 : Int32)))), .val (.int (6 : Int32))] [(.int (wl (f + 6)))]))
                obtain ⟨_, _, ⟨T43, L43, k43, n43⟩, -, X43, ⟨Lc43, hQ43, l43, y43, z43⟩, st43⟩ := Jvm.LawKit.callS X40 hx (y := (⟨"com/example/word_odds/wordodds/filter/VerdictField", "lowerCase", "(B)B"⟩ : MethodName)) hown (mvT hZ (hw _ (List.mem_of_getElem? (i := 60) rfl))) (mvT hZ (hw _ (List.mem_of_getElem? (i := 61) rfl))) (mvT hZ (hw _ (List.mem_of_getElem? (i := 44) rfl))) (mvT hZ (hw _ (List.mem_of_getElem? (i := 62) rfl))) (by decide) (backOf (W := 0) (rm11 l Z a0 hw [] (wl (f + 6))  h0 n0 (Nat.le_trans Z0 K0.1) (hwb _)) hZ (hw _ (List.mem_of_getElem? (i := 62) rfl)) (hw _ (List.mem_of_getElem? (i := 44) rfl)) (by decide) (by decide)) (g := (mkF m 40 #[.val (.ref o0), .val (.int p1), .val (.int p2), .val (.int (own_mn p2 (p1 + (998 : Int32)))), .val (.int (6 : Int32))] [(.int (wl (f + 6)))])) rfl (by rw [hml]; rfl) (argsL := [(.int (wl (f + 6)))]) (rest := []) (lenOf pd_6 rfl) rfl (by show 2 * 0 + _ ≤ _; exact Nat.le_of_eq rfl) (hb hby d8_40) (fun _ _ => ⟨rfl, e40, (by decide : 0 + 0 ≤ _), (by decide : 0 + 0 ≤ _)⟩)
                dsimp only [Pt.U, Pt.locs, Pt.cells, Pt.slots] at X43 l43 y43 z43 st43 hQ43
                subst l43 y43 z43
                obtain ⟨rfl, Nq43, eq43⟩ := hQ43
                have N43 := Fr.app N37 Nq43
                refine Runs.by (fun t hr => st43 t hr) ?_
                show Runs p e below _ (T43.setTop (mkF m 43 #[.val (.ref o0), .val (.int p1), .val (.int p2), .val (.int (own_mn p2 (p1 + (998 : Int32)))), .val (.int (6 : Int32))] [(.int (own_lc (wl (f + 6))))]))
                obtain ⟨T44, X44, e44, st44⟩ := getS2 X43 hx hZ hown (host := "") (Or.inl (hw _ (List.mem_of_getElem? (i := 50) rfl))) Via.refl eq43 SL (g := (mkF m 43 #[.val (.ref o0), .val (.int p1), .val (.int p2), .val (.int (own_mn p2 (p1 + (998 : Int32)))), .val (.int (6 : Int32))] [(.int (own_lc (wl (f + 6))))])) rfl (hb hby d8_43)
                refine Runs.by st44 ?_
                refine Runs.by (fun _ hr => XS.iload X44.here hx rfl (hb hby d8_46) rfl  hr) ?_
                show Runs p e below _ (T44.setTop (mkF m 48 #[.val (.ref o0), .val (.int p1), .val (.int p2), .val (.int (own_mn p2 (p1 + (998 : Int32)))), .val (.int (6 : Int32))] [(.int (6 : Int32)), (.ref lo), (.int (own_lc (wl (f + 6))))]))
                obtain ⟨cl45, Ar45, -, S45, N45', H45, -⟩ := id VL
                have hin45 : ¬ ((6 : Int32) < 0 ∨ cl45.slots.size ≤ ((6 : Int32)).toNatClampNeg) := inb_of S45 ⟨by decide, by decide⟩
                have hat45 := H45.at hin45 (v := (.int (45 : Int32))) rfl
                refine Runs.by (fun t hr => X44.baloadBytes hx (j := (6 : Int32)) (v := (.int (45 : Int32))) (by rw [e44]; exact Ar45.1) (State.isArrayOf_alike hZ.alike Ar45.2.1) Ar45.2.2 hin45 hat45 (g := (mkF m 48 #[.val (.ref o0), .val (.int p1), .val (.int p2), .val (.int (own_mn p2 (p1 + (998 : Int32)))), .val (.int (6 : Int32))] [(.int (6 : Int32)), (.ref lo), (.int (own_lc (wl (f + 6))))])) rfl rfl (hb hby d8_48) t hr) ?_
                by_cases hn6 : (own_lc (wl (f + 6))) = (45 : Int32)
                · -- pc 49: (own_lc (wl (f + 6))) = (45 : Int32)
                  refine Runs.by (fun _ hr => XS.icmpYes X44.here hx rfl (pc0 := 49) (pc' := 54) rfl (hb hby d8_49) rfl (teq hn6).1 (by decide) (by decide) hr) ?_
                  show Runs p e below _ (T44.setTop (mkF m 54 #[.val (.ref o0), .val (.int p1), .val (.int p2), .val (.int (own_mn p2 (p1 + (998 : Int32)))), .val (.int (6 : Int32))] []))
                  refine Runs.by (fun _ hr => XS.iinc X44.here hx rfl (hb hby d8_54) rfl (l' := #[.val (.ref o0), .val (.int p1), .val (.int p2), .val (.int (own_mn p2 (p1 + (998 : Int32)))), .val (.int (7 : Int32))]) rfl hr) ?_
                  refine Runs.by (fun _ hr => XS.goto X44.here hx rfl (pc0 := 57) (pc' := 25) rfl (hb hby d8_57) (by decide) (by decide) hr) ?_
                  refine Runs.by (fun _ hr => XS.iload X44.here hx rfl (hb hby d8_25) rfl  hr) ?_
                  show Runs p e below _ (T44.setTop (mkF m 27 #[.val (.ref o0), .val (.int p1), .val (.int p2), .val (.int (own_mn p2 (p1 + (998 : Int32)))), .val (.int (7 : Int32))] [(.int (7 : Int32))]))
                  obtain ⟨T46, X46, e46, st46⟩ := getS2 X44 hx hZ hown (host := "") (Or.inl (hw _ (List.mem_of_getElem? (i := 50) rfl))) Via.refl e44 SL (g := (mkF m 27 #[.val (.ref o0), .val (.int p1), .val (.int p2), .val (.int (own_mn p2 (p1 + (998 : Int32)))), .val (.int (7 : Int32))] [(.int (7 : Int32))])) rfl (hb hby d8_27)
                  refine Runs.by st46 ?_
                  show Runs p e below _ (T46.setTop (mkF m 30 #[.val (.ref o0), .val (.int p1), .val (.int p2), .val (.int (own_mn p2 (p1 + (998 : Int32)))), .val (.int (7 : Int32))] [(.ref lo), (.int (7 : Int32))]))
                  obtain ⟨cl47, Ar47, -, S47, N47', -, -⟩ := id VL
                  refine Runs.by (fun t hr => X46.arraylength hx (by rw [e46]; exact Ar47.1) (State.isArrayOf_alike hZ.alike Ar47.2.1) (g := (mkF m 30 #[.val (.ref o0), .val (.int p1), .val (.int p2), .val (.int (own_mn p2 (p1 + (998 : Int32)))), .val (.int (7 : Int32))] [(.ref lo), (.int (7 : Int32))])) rfl rfl (hb hby d8_30) t hr) ?_
                  rw [len_of S47 N47']
                  have hc31 : (7 : Int32) < (11 : Int32) := (by decide)
                  refine Runs.by (fun _ hr => XS.icmpNo X46.here hx rfl (hb hby d8_31) rfl (tlt hc31).2.1 hr) ?_
                  refine Runs.by (fun _ hr => XS.aloadN X46.here hx rfl (hb hby d8_34) rfl rfl hr) ?_
                  show Runs p e below _ (T46.setTop (mkF m 35 #[.val (.ref o0), .val (.int p1), .val (.int p2), .val (.int (own_mn p2 (p1 + (998 : Int32)))), .val (.int (7 : Int32))] [(.ref o0)]))
                  refine Runs.by (fun _ hr => XS.iloadN X46.here hx rfl (hb hby d8_35) rfl  hr) ?_
                  refine Runs.by (fun _ hr => XS.iload X46.here hx rfl (hb hby d8_36) rfl  hr) ?_
                  refine Runs.by (fun _ hr => XS.iadd X46.here hx rfl (hb hby d8_38) rfl hr) ?_
                  show Runs p e below _ (T46.setTop (mkF m 39 #[.val (.ref o0), .val (.int p1), .val (.int p2), .val (.int (own_mn p2 (p1 + (998 : Int32)))), .val (.int (7 : Int32))] [(.int (p1 + (7 : Int32))), (.ref o0)]))
                  obtain ⟨cl48, Ar48, -, S48, N48', H48⟩ := id GL
                  have ix48 := own_ix (j := (p1 + (7 : Int32))) (z := (24 : Int32)) (n := f + 7) (own_ad hf h3 (n := 7) (by decide) (by decide)) (own_ad24 hf h3 (n := 7) (by decide) (by decide))
                  have hin48 : ¬ ((p1 + (7 : Int32)) < 0 ∨ cl48.slots.size ≤ ((p1 + (7 : Int32))).toNatClampNeg) := inb_of S48 ix48.1
                  have hat48 : cl48.slots[((p1 + (7 : Int32))).toNatClampNeg]? = some (.int (wl (f + 7))) := by rw [ix48.2.1]; exact H48 _ ix48.2.2
                  refine Runs.by (fun t hr => X46.baloadBytes hx (j := (p1 + (7 : Int32))) (v := (.int (wl (f + 7)))) (by rw [e46]; exact Ar48.1) (State.isArrayOf_alike hZ.alike Ar48.2.1) Ar48.2.2 hin48 hat48 (g := (mkF m 39 #[.val (.ref o0), .val (.int p1), .val (.int p2), .val (.int (own_mn p2 (p1 + (998 : Int32)))), .val (.int (7 : Int32))] [(.int (p1 + (7 : Int32))), (.ref o0)])) rfl rfl (hb hby d8_39) t hr) ?_
                  show Runs p e below _ (T46.setTop (mkF m 40 #[.val (.ref o0), .val (.int p1), .val (.int p2), .val (.int (own_mn p2 (p1 + (998 : Int32)))), .val (.int (7 : Int32))] [(.int (wl (f + 7)))]))
                  obtain ⟨_, _, ⟨T49, L49, k49, n49⟩, -, X49, ⟨Lc49, hQ49, l49, y49, z49⟩, st49⟩ := Jvm.LawKit.callS X46 hx (y := (⟨"com/example/word_odds/wordodds/filter/VerdictField", "lowerCase", "(B)B"⟩ : MethodName)) hown (mvT hZ (hw _ (List.mem_of_getElem? (i := 60) rfl))) (mvT hZ (hw _ (List.mem_of_getElem? (i := 61) rfl))) (mvT hZ (hw _ (List.mem_of_getElem? (i := 44) rfl))) (mvT hZ (hw _ (List.mem_of_getElem? (i := 62) rfl))) (by decide) (backOf (W := 0) (rm11 l Z a0 hw [] (wl (f + 7))  h0 n0 (Nat.le_trans Z0 K0.1) (hwb _)) hZ (hw _ (List.mem_of_getElem? (i := 62) rfl)) (hw _ (List.mem_of_getElem? (i := 44) rfl)) (by decide) (by decide)) (g := (mkF m 40 #[.val (.ref o0), .val (.int p1), .val (.int p2), .val (.int (own_mn p2 (p1 + (998 : Int32)))), .val (.int (7 : Int32))] [(.int (wl (f + 7)))])) rfl (by rw [hml]; rfl) (argsL := [(.int (wl (f + 7)))]) (rest := []) (lenOf pd_6 rfl) rfl (by show 2 * 0 + _ ≤ _; exact Nat.le_of_eq rfl) (hb hby d8_40) (fun _ _ => ⟨rfl, e46, (by decide : 0 + 0 ≤ _), (by decide : 0 + 0 ≤ _)⟩)
                  dsimp only [Pt.U, Pt.locs, Pt.cells, Pt.slots] at X49 l49 y49 z49 st49 hQ49
                  subst l49 y49 z49
                  obtain ⟨rfl, Nq49, eq49⟩ := hQ49
                  have N49 := Fr.app N43 Nq49
                  refine Runs.by (fun t hr => st49 t hr) ?_
                  show Runs p e below _ (T49.setTop (mkF m 43 #[.val (.ref o0), .val (.int p1), .val (.int p2), .val (.int (own_mn p2 (p1 + (998 : Int32)))), .val (.int (7 : Int32))] [(.int (own_lc (wl (f + 7))))]))
                  obtain ⟨T50, X50, e50, st50⟩ := getS2 X49 hx hZ hown (host := "") (Or.inl (hw _ (List.mem_of_getElem? (i := 50) rfl))) Via.refl eq49 SL (g := (mkF m 43 #[.val (.ref o0), .val (.int p1), .val (.int p2), .val (.int (own_mn p2 (p1 + (998 : Int32)))), .val (.int (7 : Int32))] [(.int (own_lc (wl (f + 7))))])) rfl (hb hby d8_43)
                  refine Runs.by st50 ?_
                  refine Runs.by (fun _ hr => XS.iload X50.here hx rfl (hb hby d8_46) rfl  hr) ?_
                  show Runs p e below _ (T50.setTop (mkF m 48 #[.val (.ref o0), .val (.int p1), .val (.int p2), .val (.int (own_mn p2 (p1 + (998 : Int32)))), .val (.int (7 : Int32))] [(.int (7 : Int32)), (.ref lo), (.int (own_lc (wl (f + 7))))]))
                  obtain ⟨cl51, Ar51, -, S51, N51', H51, -⟩ := id VL
                  have hin51 : ¬ ((7 : Int32) < 0 ∨ cl51.slots.size ≤ ((7 : Int32)).toNatClampNeg) := inb_of S51 ⟨by decide, by decide⟩
                  have hat51 := H51.at hin51 (v := (.int (111 : Int32))) rfl
                  refine Runs.by (fun t hr => X50.baloadBytes hx (j := (7 : Int32)) (v := (.int (111 : Int32))) (by rw [e50]; exact Ar51.1) (State.isArrayOf_alike hZ.alike Ar51.2.1) Ar51.2.2 hin51 hat51 (g := (mkF m 48 #[.val (.ref o0), .val (.int p1), .val (.int p2), .val (.int (own_mn p2 (p1 + (998 : Int32)))), .val (.int (7 : Int32))] [(.int (7 : Int32)), (.ref lo), (.int (own_lc (wl (f + 7))))])) rfl rfl (hb hby d8_48) t hr) ?_
                  by_cases hn7 : (own_lc (wl (f + 7))) = (111 : Int32)
                  · -- pc 49: (own_lc (wl (f + 7))) = (111 : Int32)
                    refine Runs.by (fun _ hr => XS.icmpYes X50.here hx rfl (pc0 := 49) (pc' := 54) rfl (hb hby d8_49) rfl (teq hn7).1 (by decide) (by decide) hr) ?_
                    show Runs p e below _ (T50.setTop (mkF m 54 #[.val (.ref o0), .val (.int p1), .val (.int p2), .val (.int (own_mn p2 (p1 + (998 : Int32)))), .val (.int (7 : Int32))] []))
                    refine Runs.by (fun _ hr => XS.iinc X50.here hx rfl (hb hby d8_54) rfl (l' := #[.val (.ref o0), .val (.int p1), .val (.int p2), .val (.int (own_mn p2 (p1 + (998 : Int32)))), .val (.int (8 : Int32))]) rfl hr) ?_
                    refine Runs.by (fun _ hr => XS.goto X50.here hx rfl (pc0 := 57) (pc' := 25) rfl (hb hby d8_57) (by decide) (by decide) hr) ?_
                    refine Runs.by (fun _ hr => XS.iload X50.here hx rfl (hb hby d8_25) rfl  hr) ?_
                    show Runs p e below _ (T50.setTop (mkF m 27 #[.val (.ref o0), .val (.int p1), .val (.int p2), .val (.int (own_mn p2 (p1 + (998 : Int32)))), .val (.int (8 : Int32))] [(.int (8 : Int32))]))
                    obtain ⟨T52, X52, e52, st52⟩ := getS2 X50 hx hZ hown (host := "") (Or.inl (hw _ (List.mem_of_getElem? (i := 50) rfl))) Via.refl e50 SL (g := (mkF m 27 #[.val (.ref o0), .val (.int p1), .val (.int p2), .val (.int (own_mn p2 (p1 + (998 : Int32)))), .val (.int (8 : Int32))] [(.int (8 : Int32))])) rfl (hb hby d8_27)
                    refine Runs.by st52 ?_
                    show Runs p e below _ (T52.setTop (mkF m 30 #[.val (.ref o0), .val (.int p1), .val (.int p2), .val (.int (own_mn p2 (p1 + (998 : Int32)))), .val (.int (8 : Int32))] [(.ref lo), (.int (8 : Int32))]))
                    obtain ⟨cl53, Ar53, -, S53, N53', -, -⟩ := id VL
                    refine Runs.by (fun t hr => X52.arraylength hx (by rw [e52]; exact Ar53.1) (State.isArrayOf_alike hZ.alike Ar53.2.1) (g := (mkF m 30 #[.val (.ref o0), .val (.int p1), .val (.int p2), .val (.int (own_mn p2 (p1 + (998 : Int32)))), .val (.int (8 : Int32))] [(.ref lo), (.int (8 : Int32))])) rfl rfl (hb hby d8_30) t hr) ?_
                    rw [len_of S53 N53']
                    have hc31 : (8 : Int32) < (11 : Int32) := (by decide)
                    refine Runs.by (fun _ hr => XS.icmpNo X52.here hx rfl (hb hby d8_31) rfl (tlt hc31).2.1 hr) ?_
                    refine Runs.by (fun _ hr => XS.aloadN X52.here hx rfl (hb hby d8_34) rfl rfl hr) ?_
                    show Runs p e below _ (T52.setTop (mkF m 35 #[.val (.ref o0), .val (.int p1), .val (.int p2), .val (.int (own_mn p2 (p1 + (998 : Int32)))), .val (.int (8 : Int32))] [(.ref o0)]))
                    refine Runs.by (fun _ hr => XS.iloadN X52.here hx rfl (hb hby d8_35) rfl  hr) ?_
                    refine Runs.by (fun _ hr => XS.iload X52.here hx rfl (hb hby d8_36) rfl  hr) ?_
                    refine Runs.by (fun _ hr => XS.iadd X52.here hx rfl (hb hby d8_38) rfl hr) ?_
                    show Runs p e below _ (T52.setTop (mkF m 39 #[.val (.ref o0), .val (.int p1), .val (.int p2), .val (.int (own_mn p2 (p1 + (998 : Int32)))), .val (.int (8 : Int32))] [(.int (p1 + (8 : Int32))), (.ref o0)]))
                    obtain ⟨cl54, Ar54, -, S54, N54', H54⟩ := id GL
                    have ix54 := own_ix (j := (p1 + (8 : Int32))) (z := (24 : Int32)) (n := f + 8) (own_ad hf h3 (n := 8) (by decide) (by decide)) (own_ad24 hf h3 (n := 8) (by decide) (by decide))
                    have hin54 : ¬ ((p1 + (8 : Int32)) < 0 ∨ cl54.slots.size ≤ ((p1 + (8 : Int32))).toNatClampNeg) := inb_of S54 ix54.1
                    have hat54 : cl54.slots[((p1 + (8 : Int32))).toNatClampNeg]? = some (.int (wl (f + 8))) := by rw [ix54.2.1]; exact H54 _ ix54.2.2
                    refine Runs.by (fun t hr => X52.baloadBytes hx (j := (p1 + (8 : Int32))) (v := (.int (wl (f + 8)))) (by rw [e52]; exact Ar54.1) (State.isArrayOf_alike hZ.alike Ar54.2.1) Ar54.2.2 hin54 hat54 (g := (mkF m 39 #[.val (.ref o0), .val (.int p1), .val (.int p2), .val (.int (own_mn p2 (p1 + (998 : Int32)))), .val (.int (8 : Int32))] [(.int (p1 + (8 : Int32))), (.ref o0)])) rfl rfl (hb hby d8_39) t hr) ?_
                    show Runs p e below _ (T52.setTop (mkF m 40 #[.val (.ref o0), .val (.int p1), .val (.int p2), .val (.int (own_mn p2 (p1 + (998 : Int32)))), .val (.int (8 : Int32))] [(.int (wl (f + 8)))]))
                    obtain ⟨_, _, ⟨T55, L55, k55, n55⟩, -, X55, ⟨Lc55, hQ55, l55, y55, z55⟩, st55⟩ := Jvm.LawKit.callS X52 hx (y := (⟨"com/example/word_odds/wordodds/filter/VerdictField", "lowerCase", "(B)B"⟩ : MethodName)) hown (mvT hZ (hw _ (List.mem_of_getElem? (i := 60) rfl))) (mvT hZ (hw _ (List.mem_of_getElem? (i := 61) rfl))) (mvT hZ (hw _ (List.mem_of_getElem? (i := 44) rfl))) (mvT hZ (hw _ (List.mem_of_getElem? (i := 62) rfl))) (by decide) (backOf (W := 0) (rm11 l Z a0 hw [] (wl (f + 8))  h0 n0 (Nat.le_trans Z0 K0.1) (hwb _)) hZ (hw _ (List.mem_of_getElem? (i := 62) rfl)) (hw _ (List.mem_of_getElem? (i := 44) rfl)) (by decide) (by decide)) (g := (mkF m 40 #[.val (.ref o0), .val (.int p1), .val (.int p2), .val (.int (own_mn p2 (p1 + (998 : Int32)))), .val (.int (8 : Int32))] [(.int (wl (f + 8)))])) rfl (by rw [hml]; rfl) (argsL := [(.int (wl (f + 8)))]) (rest := []) (lenOf pd_6 rfl) rfl (by show 2 * 0 + _ ≤ _; exact Nat.le_of_eq rfl) (hb hby d8_40) (fun _ _ => ⟨rfl, e52, (by decide : 0 + 0 ≤ _), (by decide : 0 + 0 ≤ _)⟩)
                    dsimp only [Pt.U, Pt.locs, Pt.cells, Pt.slots] at X55 l55 y55 z55 st55 hQ55
                    subst l55 y55 z55
                    obtain ⟨rfl, Nq55, eq55⟩ := hQ55
                    have N55 := Fr.app N49 Nq55
                    refine Runs.by (fun t hr => st55 t hr) ?_
                    show Runs p e below _ (T55.setTop (mkF m 43 #[.val (.ref o0), .val (.int p1), .val (.int p2), .val (.int (own_mn p2 (p1 + (998 : Int32)))), .val (.int (8 : Int32))] [(.int (own_lc (wl (f + 8))))]))
                    obtain ⟨T56, X56, e56, st56⟩ := getS2 X55 hx hZ hown (host := "") (Or.inl (hw _ (List.mem_of_getElem? (i := 50) rfl))) Via.refl eq55 SL (g := (mkF m 43 #[.val (.ref o0), .val (.int p1), .val (.int p2), .val (.int (own_mn p2 (p1 + (998 : Int32)))), .val (.int (8 : Int32))] [(.int (own_lc (wl (f + 8))))])) rfl (hb hby d8_43)
                    refine Runs.by st56 ?_
                    refine Runs.by (fun _ hr => XS.iload X56.here hx rfl (hb hby d8_46) rfl  hr) ?_
                    show Runs p e below _ (T56.setTop (mkF m 48 #[.val (.ref o0), .val (.int p1), .val (.int p2), .val (.int (own_mn p2 (p1 + (998 : Int32)))), .val (.int (8 : Int32))] [(.int (8 : Int32)), (.ref lo), (.int (own_lc (wl (f + 8))))]))
                    obtain ⟨cl57, Ar57, -, S57, N57', H57, -⟩ := id VL
                    have hin57 : ¬ ((8 : Int32) < 0 ∨ cl57.slots.size ≤ ((8 : Int32)).toNatClampNeg) := inb_of S57 ⟨by decide, by decide⟩
                    have hat57 := H57.at hin57 (v := (.int (100 : Int32))) rfl
                    refine Runs.by (fun t hr => X56.baloadBytes hx (j := (8 : Int32)) (v := (.int (100 : Int32))) (by rw [e56]; exact Ar57.1) (State.isArrayOf_alike hZ.alike Ar57.2.1) Ar57.2.2 hin57 hat57 (g := (mkF m 48 #[.val (.ref o0), .val (.int p1), .val (.int p2), .val (.int (own_mn p2 (p1 + (998 : Int32)))), .val (.int (8 : Int32))] [(.int (8 : Int32)), (.ref lo), (.int (own_lc (wl (f + 8))))])) rfl rfl (hb hby d8_48) t hr) ?_
                    by_cases hn8 : (own_lc (wl (f + 8))) = (100 : Int32)
                    · -- pc 49: (own_lc (wl (f + 8))) = (100 : Int32)
                      refine Runs.by (fun _ hr => XS.icmpYes X56.here hx rfl (pc0 := 49) (pc' := 54) rfl (hb hby d8_49) rfl (teq hn8).1 (by decide) (by decide) hr) ?_
                      show Runs p e below _ (T56.setTop (mkF m 54 #[.val (.ref o0), .val (.int p1), .val (.int p2), .val (.int (own_mn p2 (p1 + (998 : Int32)))), .val (.int (8 : Int32))] []))
                      refine Runs.by (fun _ hr => XS.iinc X56.here hx rfl (hb hby d8_54) rfl (l' := #[.val (.ref o0), .val (.int p1), .val (.int p2), .val (.int (own_mn p2 (p1 + (998 : Int32)))), .val (.int (9 : Int32))]) rfl hr) ?_
                      refine Runs.by (fun _ hr => XS.goto X56.here hx rfl (pc0 := 57) (pc' := 25) rfl (hb hby d8_57) (by decide) (by decide) hr) ?_
                      refine Runs.by (fun _ hr => XS.iload X56.here hx rfl (hb hby d8_25) rfl  hr) ?_
                      show Runs p e below _ (T56.setTop (mkF m 27 #[.val (.ref o0), .val (.int p1), .val (.int p2), .val (.int (own_mn p2 (p1 + (998 : Int32)))), .val (.int (9 : Int32))] [(.int (9 : Int32))]))
                      obtain ⟨T58, X58, e58, st58⟩ := getS2 X56 hx hZ hown (host := "") (Or.inl (hw _ (List.mem_of_getElem? (i := 50) rfl))) Via.refl e56 SL (g := (mkF m 27 #[.val (.ref o0), .val (.int p1), .val (.int p2), .val (.int (own_mn p2 (p1 + (998 : Int32)))), .val (.int (9 : Int32))] [(.int (9 : Int32))])) rfl (hb hby d8_27)
                      refine Runs.by st58 ?_
                      show Runs p e below _ (T58.setTop (mkF m 30 #[.val (.ref o0), .val (.int p1), .val (.int p2), .val (.int (own_mn p2 (p1 + (998 : Int32)))), .val (.int (9 : Int32))] [(.ref lo), (.int (9 : Int32))]))
                      obtain ⟨cl59, Ar59, -, S59, N59', -, -⟩ := id VL
                      refine Runs.by (fun t hr => X58.arraylength hx (by rw [e58]; exact Ar59.1) (State.isArrayOf_alike hZ.alike Ar59.2.1) (g := (mkF m 30 #[.val (.ref o0), .val (.int p1), .val (.int p2), .val (.int (own_mn p2 (p1 + (998 : Int32)))), .val (.int (9 : Int32))] [(.ref lo), (.int (9 : Int32))])) rfl rfl (hb hby d8_30) t hr) ?_
                      rw [len_of S59 N59']
                      have hc31 : (9 : Int32) < (11 : Int32) := (by decide)
                      refine Runs.by (fun _ hr => XS.icmpNo X58.here hx rfl (hb hby d8_31) rfl (tlt hc31).2.1 hr) ?_
                      refine Runs.by (fun _ hr => XS.aloadN X58.here hx rfl (hb hby d8_34) rfl rfl hr) ?_
                      show Runs p e below _ (T58.setTop (mkF m 35 #[.val (.ref o0), .val (.int p1), .val (.int p2), .val (.int (own_mn p2 (p1 + (998 : Int32)))), .val (.int (9 : Int32))] [(.ref o0)]))
                      refine Runs.by (fun _ hr => XS.iloadN X58.here hx rfl (hb hby d8_35) rfl  hr) ?_
                      refine Runs.by (fun _ hr => XS.iload X58.here hx rfl (hb hby d8_36) rfl  hr) ?_
                      refine Runs.by (fun _ hr => XS.iadd X58.here hx rfl (hb hby d8_38) rfl hr) ?_
                      show Runs p e below _ (T58.setTop (mkF m 39 #[.val (.ref o0), .val (.int p1), .val (.int p2), .val (.int (own_mn p2 (p1 + (998 : Int32)))), .val (.int (9 : Int32))] [(.int (p1 + (9 : Int32))), (.ref o0)]))
                      obtain ⟨cl60, Ar60, -, S60, N60', H60⟩ := id GL
                      have ix60 := own_ix (j := (p1 + (9 : Int32))) (z := (24 : Int32)) (n := f + 9) (own_ad hf h3 (n := 9) (by decide) (by decide)) (own_ad24 hf h3 (n := 9) (by decide) (by decide))
                      have hin60 : ¬ ((p1 + (9 : Int32)) < 0 ∨ cl60.slots.size ≤ ((p1 + (9 : Int32))).toNatClampNeg) := inb_of S60 ix60.1
                      have hat60 : cl60.slots[((p1 + (9 : Int32))).toNatClampNeg]? = some (.int (wl (f + 9))) := by rw [ix60.2.1]; exact H60 _ ix60.2.2
                      refine Runs.by (fun t hr => X58.baloadBytes hx (j := (p1 + (9 : Int32))) (v := (.int (wl (f + 9)))) (by rw [e58]; exact Ar60.1) (State.isArrayOf_alike hZ.alike Ar60.2.1) Ar60.2.2 hin60 hat60 (g := (mkF m 39 #[.val (.ref o0), .val (.int p1), .val (.int p2), .val (.int (own_mn p2 (p1 + (998 : Int32)))), .val (.int (9 : Int32))] [(.int (p1 + (9 : Int32))), (.ref o0)])) rfl rfl (hb hby d8_39) t hr) ?_
                      show Runs p e below _ (T58.setTop (mkF m 40 #[.val (.ref o0), .val (.int p1), .val (.int p2), .val (.int (own_mn p2 (p1 + (998 : Int32)))), .val (.int (9 : Int32))] [(.int (wl (f + 9)))]))
                      obtain ⟨_, _, ⟨T61, L61, k61, n61⟩, -, X61, ⟨Lc61, hQ61, l61, y61, z61⟩, st61⟩ := Jvm.LawKit.callS X58 hx (y := (⟨"com/example/word_odds/wordodds/filter/VerdictField", "lowerCase", "(B)B"⟩ : MethodName)) hown (mvT hZ (hw _ (List.mem_of_getElem? (i := 60) rfl))) (mvT hZ (hw _ (List.mem_of_getElem? (i := 61) rfl))) (mvT hZ (hw _ (List.mem_of_getElem? (i := 44) rfl))) (mvT hZ (hw _ (List.mem_of_getElem? (i := 62) rfl))) (by decide) (backOf (W := 0) (rm11 l Z a0 hw [] (wl (f + 9))  h0 n0 (Nat.le_trans Z0 K0.1) (hwb _)) hZ (hw _ (List.mem_of_getElem? (i := 62) rfl)) (hw _ (List.mem_of_getElem? (i := 44) rfl)) (by decide) (by decide)) (g := (mkF m 40 #[.val (.ref o0), .val (.int p1), .val (.int p2), .val (.int (own_mn p2 (p1 + (998 : Int32)))), .val (.int (9 : Int32))] [(.int (wl (f + 9)))])) rfl (by rw [hml]; rfl) (argsL := [(.int (wl (f + 9)))]) (rest := []) (lenOf pd_6 rfl) rfl (by show 2 * 0 + _ ≤ _; exact Nat.le_of_eq rfl) (hb hby d8_40) (fun _ _ => ⟨rfl, e58, (by decide : 0 + 0 ≤ _), (by decide : 0 + 0 ≤ _)⟩)
                      dsimp only [Pt.U, Pt.locs, Pt.cells, Pt.slots] at X61 l61 y61 z61 st61 hQ61
                      subst l61 y61 z61
                      obtain ⟨rfl, Nq61, eq61⟩ := hQ61
                      have N61 := Fr.app N55 Nq61
                      refine Runs.by (fun t hr => st61 t hr) ?_
                      show Runs p e below _ (T61.setTop (mkF m 43 #[.val (.ref o0), .val (.int p1), .val (.int p2), .val (.int (own_mn p2 (p1 + (998 : Int32)))), .val (.int (9 : Int32))] [(.int (own_lc (wl (f + 9))))]))
                      obtain ⟨T62, X62, e62, st62⟩ := getS2 X61 hx hZ hown (host := "") (Or.inl (hw _ (List.mem_of_getElem? (i := 50) rfl))) Via.refl eq61 SL (g := (mkF m 43 #[.val (.ref o0), .val (.int p1), .val (.int p2), .val (.int (own_mn p2 (p1 + (998 : Int32)))), .val (.int (9 : Int32))] [(.int (own_lc (wl (f + 9))))])) rfl (hb hby d8_43)
                      refine Runs.by st62 ?_
                      refine Runs.by (fun _ hr => XS.iload X62.here hx rfl (hb hby d8_46) rfl  hr) ?_
                      show Runs p e below _ (T62.setTop (mkF m 48 #[.val (.ref o0), .val (.int p1), .val (.int p2), .val (.int (own_mn p2 (p1 + (998 : Int32)))), .val (.int (9 : Int32))] [(.int (9 : Int32)), (.ref lo), (.int (own_lc (wl (f + 9))))]))
                      obtain ⟨cl63, Ar63, -, S63, N63', H63, -⟩ := id VL
                      have hin63 : ¬ ((9 : Int32) < 0 ∨ cl63.slots.size ≤ ((9 : Int32)).toNatClampNeg) := inb_of S63 ⟨by decide, by decide⟩
                      have hat63 := H63.at hin63 (v := (.int (100 : Int32))) rfl
                      refine Runs.by (fun t hr => X62.baloadBytes hx (j := (9 : Int32)) (v := (.int (100 : Int32))) (by rw [e62]; exact Ar63.1) (State.isArrayOf_alike hZ.alike Ar63.2.1) Ar63.2.2 hin63 hat63 (g := (mkF m 48 #[.val (.ref o0), .val (.int p1), .val (.int p2), .val (.int (own_mn p2 (p1 + (998 : Int32)))), .val (.int (9 : Int32))] [(.int (9 : Int32)), (.ref lo), (.int (own_lc (wl (f + 9))))])) rfl rfl (hb hby d8_48) t hr) ?_
                      by_cases hn9 : (own_lc (wl (f + 9))) = (100 : Int32)
                      · -- pc 49: (own_lc (wl (f + 9))) = (100 : Int32)
                        refine Runs.by (fun _ hr => XS.icmpYes X62.here hx rfl (pc0 := 49) (pc' := 54) rfl (hb hby d8_49) rfl (teq hn9).1 (by decide) (by decide) hr) ?_
                        show Runs p e below _ (T62.setTop (mkF m 54 #[.val (.ref o0), .val (.int p1), .val (.int p2), .val (.int (own_mn p2 (p1 + (998 : Int32)))), .val (.int (9 : Int32))] []))
                        refine Runs.by (fun _ hr => XS.iinc X62.here hx rfl (hb hby d8_54) rfl (l' := #[.val (.ref o0), .val (.int p1), .val (.int p2), .val (.int (own_mn p2 (p1 + (998 : Int32)))), .val (.int (10 : Int32))]) rfl hr) ?_
                        refine Runs.by (fun _ hr => XS.goto X62.here hx rfl (pc0 := 57) (pc' := 25) rfl (hb hby d8_57) (by decide) (by decide) hr) ?_
                        refine Runs.by (fun _ hr => XS.iload X62.here hx rfl (hb hby d8_25) rfl  hr) ?_
                        show Runs p e below _ (T62.setTop (mkF m 27 #[.val (.ref o0), .val (.int p1), .val (.int p2), .val (.int (own_mn p2 (p1 + (998 : Int32)))), .val (.int (10 : Int32))] [(.int (10 : Int32))]))
                        obtain ⟨T64, X64, e64, st64⟩ := getS2 X62 hx hZ hown (host := "") (Or.inl (hw _ (List.mem_of_getElem? (i := 50) rfl))) Via.refl e62 SL (g := (mkF m 27 #[.val (.ref o0), .val (.int p1), .val (.int p2), .val (.int (own_mn p2 (p1 + (998 : Int32)))), .val (.int (10 : Int32))] [(.int (10 : Int32))])) rfl (hb hby d8_27)
                        refine Runs.by st64 ?_
                        show Runs p e below _ (T64.setTop (mkF m 30 #[.val (.ref o0), .val (.int p1), .val (.int p2), .val (.int (own_mn p2 (p1 + (998 : Int32)))), .val (.int (10 : Int32))] [(.ref lo), (.int (10 : Int32))]))
                        obtain ⟨cl65, Ar65, -, S65, N65', -, -⟩ := id VL
                        refine Runs.by (fun t hr => X64.arraylength hx (by rw [e64]; exact Ar65.1) (State.isArrayOf_alike hZ.alike Ar65.2.1) (g := (mkF m 30 #[.val (.ref o0), .val (.int p1), .val (.int p2), .val (.int (own_mn p2 (p1 + (998 : Int32)))), .val (.int (10 : Int32))] [(.ref lo), (.int (10 : Int32))])) rfl rfl (hb hby d8_30) t hr) ?_
                        rw [len_of S65 N65']
                        have hc31 : (10 : Int32) < (11 : Int32) := (by decide)
                        refine Runs.by (fun _ hr => XS.icmpNo X64.here hx rfl (hb hby d8_31) rfl (tlt hc31).2.1 hr) ?_
                        refine Runs.by (fun _ hr => XS.aloadN X64.here hx rfl (hb hby d8_34) rfl rfl hr) ?_
                        show Runs p e below _ (T64.setTop (mkF m 35 #[.val (.ref o0), .val (.int p1), .val (.int p2), .val (.int (own_mn p2 (p1 + (998 : Int32)))), .val (.int (10 : Int32))] [(.ref o0)]))
                        refine Runs.by (fun _ hr => XS.iloadN X64.here hx rfl (hb hby d8_35) rfl  hr) ?_
                        refine Runs.by (fun _ hr => XS.iload X64.here hx rfl (hb hby d8_36) rfl  hr) ?_
                        refine Runs.by (fun _ hr => XS.iadd X64.here hx rfl (hb hby d8_38) rfl hr) ?_
                        show Runs p e below _ (T64.setTop (mkF m 39 #[.val (.ref o0), .val (.int p1), .val (.int p2), .val (.int (own_mn p2 (p1 + (998 : Int32)))), .val (.int (10 : Int32))] [(.int (p1 + (10 : Int32))), (.ref o0)]))
                        obtain ⟨cl66, Ar66, -, S66, N66', H66⟩ := id GL
                        have ix66 := own_ix (j := (p1 + (10 : Int32))) (z := (24 : Int32)) (n := f + 10) (own_ad hf h3 (n := 10) (by decide) (by decide)) (own_ad24 hf h3 (n := 10) (by decide) (by decide))
                        have hin66 : ¬ ((p1 + (10 : Int32)) < 0 ∨ cl66.slots.size ≤ ((p1 + (10 : Int32))).toNatClampNeg) := inb_of S66 ix66.1
                        have hat66 : cl66.slots[((p1 + (10 : Int32))).toNatClampNeg]? = some (.int (wl (f + 10))) := by rw [ix66.2.1]; exact H66 _ ix66.2.2
                        refine Runs.by (fun t hr => X64.baloadBytes hx (j := (p1 + (10 : Int32))) (v := (.int (wl (f + 10)))) (by rw [e64]; exact Ar66.1) (State.isArrayOf_alike hZ.alike Ar66.2.1) Ar66.2.2 hin66 hat66 (g := (mkF m 39 #[.val (.ref o0), .val (.int p1), .val (.int p2), .val (.int (own_mn p2 (p1 + (998 : Int32)))), .val (.int (10 : Int32))] [(.int (p1 + (10 : Int32))), (.ref o0)])) rfl rfl (hb hby d8_39) t hr) ?_
                        show Runs p e below _ (T64.setTop (mkF m 40 #[.val (.ref o0), .val (.int p1), .val (.int p2), .val (.int (own_mn p2 (p1 + (998 : Int32)))), .val (.int (10 : Int32))] [(.int (wl (f + 10)))]))
                        obtain ⟨_, _, ⟨T67, L67, k67, n67⟩, -, X67, ⟨Lc67, hQ67, l67, y67, z67⟩, st67⟩ := Jvm.LawKit.callS X64 hx (y := (⟨"com/example/word_odds/wordodds/filter/VerdictField", "lowerCase", "(B)B"⟩ : MethodName)) hown (mvT hZ (hw _ (List.mem_of_getElem? (i := 60) rfl))) (mvT hZ (hw _ (List.mem_of_getElem? (i := 61) rfl))) (mvT hZ (hw _ (List.mem_of_getElem? (i := 44) rfl))) (mvT hZ (hw _ (List.mem_of_getElem? (i := 62) rfl))) (by decide) (backOf (W := 0) (rm11 l Z a0 hw [] (wl (f + 10))  h0 n0 (Nat.le_trans Z0 K0.1) (hwb _)) hZ (hw _ (List.mem_of_getElem? (i := 62) rfl)) (hw _ (List.mem_of_getElem? (i := 44) rfl)) (by decide) (by decide)) (g := (mkF m 40 #[.val (.ref o0), .val (.int p1), .val (.int p2), .val (.int (own_mn p2 (p1 + (998 : Int32)))), .val (.int (10 : Int32))] [(.int (wl (f + 10)))])) rfl (by rw [hml]; rfl) (argsL := [(.int (wl (f + 10)))]) (rest := []) (lenOf pd_6 rfl) rfl (by show 2 * 0 + _ ≤ _; exact Nat.le_of_eq rfl) (hb hby d8_40) (fun _ _ => ⟨rfl, e64, (by decide : 0 + 0 ≤ _), (by decide : 0 + 0 ≤ _)⟩)
                        dsimp only [Pt.U, Pt.locs, Pt.cells, Pt.slots] at X67 l67 y67 z67 st67 hQ67
                        subst l67 y67 z67
                        obtain ⟨rfl, Nq67, eq67⟩ := hQ67
                        have N67 := Fr.app N61 Nq67
                        refine Runs.by (fun t hr => st67 t hr) ?_
                        show Runs p e below _ (T67.setTop (mkF m 43 #[.val (.ref o0), .val (.int p1), .val (.int p2), .val (.int (own_mn p2 (p1 + (998 : Int32)))), .val (.int (10 : Int32))] [(.int (own_lc (wl (f + 10))))]))
                        obtain ⟨T68, X68, e68, st68⟩ := getS2 X67 hx hZ hown (host := "") (Or.inl (hw _ (List.mem_of_getElem? (i := 50) rfl))) Via.refl eq67 SL (g := (mkF m 43 #[.val (.ref o0), .val (.int p1), .val (.int p2), .val (.int (own_mn p2 (p1 + (998 : Int32)))), .val (.int (10 : Int32))] [(.int (own_lc (wl (f + 10))))])) rfl (hb hby d8_43)
                        refine Runs.by st68 ?_
                        refine Runs.by (fun _ hr => XS.iload X68.here hx rfl (hb hby d8_46) rfl  hr) ?_
                        show Runs p e below _ (T68.setTop (mkF m 48 #[.val (.ref o0), .val (.int p1), .val (.int p2), .val (.int (own_mn p2 (p1 + (998 : Int32)))), .val (.int (10 : Int32))] [(.int (10 : Int32)), (.ref lo), (.int (own_lc (wl (f + 10))))]))
                        obtain ⟨cl69, Ar69, -, S69, N69', H69, -⟩ := id VL
                        have hin69 : ¬ ((10 : Int32) < 0 ∨ cl69.slots.size ≤ ((10 : Int32)).toNatClampNeg) := inb_of S69 ⟨by decide, by decide⟩
                        have hat69 := H69.at hin69 (v := (.int (115 : Int32))) rfl
                        refine Runs.by (fun t hr => X68.baloadBytes hx (j := (10 : Int32)) (v := (.int (115 : Int32))) (by rw [e68]; exact Ar69.1) (State.isArrayOf_alike hZ.alike Ar69.2.1) Ar69.2.2 hin69 hat69 (g := (mkF m 48 #[.val (.ref o0), .val (.int p1), .val (.int p2), .val (.int (own_mn p2 (p1 + (998 : Int32)))), .val (.int (10 : Int32))] [(.int (10 : Int32)), (.ref lo), (.int (own_lc (wl (f + 10))))])) rfl rfl (hb hby d8_48) t hr) ?_
                        by_cases hn10 : (own_lc (wl (f + 10))) = (115 : Int32)
                        · -- pc 49: (own_lc (wl (f + 10))) = (115 : Int32)
                          refine Runs.by (fun _ hr => XS.icmpYes X68.here hx rfl (pc0 := 49) (pc' := 54) rfl (hb hby d8_49) rfl (teq hn10).1 (by decide) (by decide) hr) ?_
                          show Runs p e below _ (T68.setTop (mkF m 54 #[.val (.ref o0), .val (.int p1), .val (.int p2), .val (.int (own_mn p2 (p1 + (998 : Int32)))), .val (.int (10 : Int32))] []))
                          refine Runs.by (fun _ hr => XS.iinc X68.here hx rfl (hb hby d8_54) rfl (l' := #[.val (.ref o0), .val (.int p1), .val (.int p2), .val (.int (own_mn p2 (p1 + (998 : Int32)))), .val (.int (11 : Int32))]) rfl hr) ?_
                          refine Runs.by (fun _ hr => XS.goto X68.here hx rfl (pc0 := 57) (pc' := 25) rfl (hb hby d8_57) (by decide) (by decide) hr) ?_
                          refine Runs.by (fun _ hr => XS.iload X68.here hx rfl (hb hby d8_25) rfl  hr) ?_
                          show Runs p e below _ (T68.setTop (mkF m 27 #[.val (.ref o0), .val (.int p1), .val (.int p2), .val (.int (own_mn p2 (p1 + (998 : Int32)))), .val (.int (11 : Int32))] [(.int (11 : Int32))]))
                          obtain ⟨T70, X70, e70, st70⟩ := getS2 X68 hx hZ hown (host := "") (Or.inl (hw _ (List.mem_of_getElem? (i := 50) rfl))) Via.refl e68 SL (g := (mkF m 27 #[.val (.ref o0), .val (.int p1), .val (.int p2), .val (.int (own_mn p2 (p1 + (998 : Int32)))), .val (.int (11 : Int32))] [(.int (11 : Int32))])) rfl (hb hby d8_27)
                          refine Runs.by st70 ?_
                          show Runs p e below _ (T70.setTop (mkF m 30 #[.val (.ref o0), .val (.int p1), .val (.int p2), .val (.int (own_mn p2 (p1 + (998 : Int32)))), .val (.int (11 : Int32))] [(.ref lo), (.int (11 : Int32))]))
                          obtain ⟨cl71, Ar71, -, S71, N71', -, -⟩ := id VL
                          refine Runs.by (fun t hr => X70.arraylength hx (by rw [e70]; exact Ar71.1) (State.isArrayOf_alike hZ.alike Ar71.2.1) (g := (mkF m 30 #[.val (.ref o0), .val (.int p1), .val (.int p2), .val (.int (own_mn p2 (p1 + (998 : Int32)))), .val (.int (11 : Int32))] [(.ref lo), (.int (11 : Int32))])) rfl rfl (hb hby d8_30) t hr) ?_
                          rw [len_of S71 N71']
                          have hc31 : ¬ ((11 : Int32) < (11 : Int32)) := (by decide)
                          refine Runs.by (fun _ hr => XS.icmpYes X70.here hx rfl (pc0 := 31) (pc' := 60) rfl (hb hby d8_31) rfl (flt hc31).2.1 (by decide) (by decide) hr) ?_
                          refine Runs.by (fun _ hr => XS.iloadN X70.here hx rfl (hb hby d8_60) rfl  hr) ?_
                          show Runs p e below _ (T70.setTop (mkF m 61 #[.val (.ref o0), .val (.int p1), .val (.int p2), .val (.int (own_mn p2 (p1 + (998 : Int32)))), .val (.int (11 : Int32))] [(.int p1)]))
                          obtain ⟨T72, X72, e72, st72⟩ := getS2 X70 hx hZ hown (host := "") (Or.inl (hw _ (List.mem_of_getElem? (i := 50) rfl))) Via.refl e70 SL (g := (mkF m 61 #[.val (.ref o0), .val (.int p1), .val (.int p2), .val (.int (own_mn p2 (p1 + (998 : Int32)))), .val (.int (11 : Int32))] [(.int p1)])) rfl (hb hby d8_61)
                          refine Runs.by st72 ?_
                          show Runs p e below _ (T72.setTop (mkF m 64 #[.val (.ref o0), .val (.int p1), .val (.int p2), .val (.int (own_mn p2 (p1 + (998 : Int32)))), .val (.int (11 : Int32))] [(.ref lo), (.int p1)]))
                          obtain ⟨cl73, Ar73, -, S73, N73', -, -⟩ := id VL
                          refine Runs.by (fun t hr => X72.arraylength hx (by rw [e72]; exact Ar73.1) (State.isArrayOf_alike hZ.alike Ar73.2.1) (g := (mkF m 64 #[.val (.ref o0), .val (.int p1), .val (.int p2), .val (.int (own_mn p2 (p1 + (998 : Int32)))), .val (.int (11 : Int32))] [(.ref lo), (.int p1)])) rfl rfl (hb hby d8_64) t hr) ?_
                          rw [len_of S73 N73']
                          refine Runs.by (fun _ hr => XS.iadd X72.here hx rfl (hb hby d8_65) rfl hr) ?_
                          refine Runs.by (fun _ hr => XS.istore X72.here hx rfl (hb hby d8_66) rfl (l' := #[.val (.ref o0), .val (.int p1), .val (.int p2), .val (.int (own_mn p2 (p1 + (998 : Int32)))), .val (.int (p1 + (11 : Int32)))]) rfl hr) ?_
                          show Runs p e below _ (T72.setTop (mkF m 68 #[.val (.ref o0), .val (.int p1), .val (.int p2), .val (.int (own_mn p2 (p1 + (998 : Int32)))), .val (.int (p1 + (11 : Int32)))] []))
                          refine Runs.by (fun _ hr => XS.iload X72.here hx rfl (hb hby d8_68) rfl  hr) ?_
                          refine Runs.by (fun _ hr => XS.iloadN X72.here hx rfl (hb hby d8_70) rfl  hr) ?_
                          by_cases ha0 : (p1 + (11 : Int32)) < (own_mn p2 (p1 + (998 : Int32)))
                          · -- pc 71: (p1 + (11 : Int32)) < (own_mn p2 (p1 + (998 : Int32)))
                            refine Runs.by (fun _ hr => XS.icmpNo X72.here hx rfl (hb hby d8_71) rfl (tlt ha0).2.1 hr) ?_
                            have JB0 : ∀  (TJ74 : State) (lJ74 : List Loc) (XJ74 : Stand p l e ({ frames := 1, cells := 0, slots := 0, locals := 16 } : Room) s m #[(.ref o0), (.int p1), (.int p2)] below meth c TJ74 lJ74 0 0) (eJ74 : TJ74.heap = h0) (NJ74 : Fr n0 lJ74) (hw0 : wl (f + 11) = 32 ∨ wl (f + 11) = 9), Runs p e below (QE s (Q_rm8 Z o0 p1 p2 kl wl f lo ko h0 n0) ({ frames := 1, cells := 0, slots := 0, locals := 16 } : Room).cells ({ frames := 1, cells := 0, slots := 0, locals := 16 } : Room).slots) (TJ74.setTop (mkF m 92 #[.val (.ref o0), .val (.int p1), .val (.int p2), .val (.int (own_mn p2 (p1 + (998 : Int32)))), .val (.int (p1 + (11 : Int32)))] [])) := by
                              intro  TJ74 lJ74 XJ74 eJ74 NJ74 hw0
                              show Runs p e below _ (TJ74.setTop (mkF m 92 #[.val (.ref o0), .val (.int p1), .val (.int p2), .val (.int (own_mn p2 (p1 + (998 : Int32)))), .val (.int (p1 + (11 : Int32)))] []))
                              refine Runs.by (fun _ hr => XS.iinc XJ74.here hx rfl (hb hby d8_92) rfl (l' := #[.val (.ref o0), .val (.int p1), .val (.int p2), .val (.int (own_mn p2 (p1 + (998 : Int32)))), .val (.int ((p1 + (11 : Int32)) + (1 : Int32)))]) rfl hr) ?_
                              rw [show (p1 + (11 : Int32)) + (1 : Int32) = p1 + (12 : Int32) from own_as p1 (by decide)]
                              refine Runs.by (fun _ hr => XS.goto XJ74.here hx rfl (pc0 := 95) (pc' := 68) rfl (hb hby d8_95) (by decide) (by decide) hr) ?_
                              refine Runs.by (fun _ hr => XS.iload XJ74.here hx rfl (hb hby d8_68) rfl  hr) ?_
                              show Runs p e below _ (TJ74.setTop (mkF m 70 #[.val (.ref o0), .val (.int p1), .val (.int p2), .val (.int (own_mn p2 (p1 + (998 : Int32)))), .val (.int (p1 + (12 : Int32)))] [(.int (p1 + (12 : Int32)))]))
                              refine Runs.by (fun _ hr => XS.iloadN XJ74.here hx rfl (hb hby d8_70) rfl  hr) ?_
                              by_cases ha1 : (p1 + (12 : Int32)) < (own_mn p2 (p1 + (998 : Int32)))
                              · -- pc 71: (p1 + (12 : Int32)) < (own_mn p2 (p1 + (998 : Int32)))
                                refine Runs.by (fun _ hr => XS.icmpNo XJ74.here hx rfl (hb hby d8_71) rfl (tlt ha1).2.1 hr) ?_
                                have JB1 : ∀  (TJ75 : State) (lJ75 : List Loc) (XJ75 : Stand p l e ({ frames := 1, cells := 0, slots := 0, locals := 16 } : Room) s m #[(.ref o0), (.int p1), (.int p2)] below meth c TJ75 lJ75 0 0) (eJ75 : TJ75.heap = h0) (NJ75 : Fr n0 lJ75) (hw1 : wl (f + 12) = 32 ∨ wl (f + 12) = 9), Runs p e below (QE s (Q_rm8 Z o0 p1 p2 kl wl f lo ko h0 n0) ({ frames := 1, cells := 0, slots := 0, locals := 16 } : Room).cells ({ frames := 1, cells := 0, slots := 0, locals := 16 } : Room).slots) (TJ75.setTop (mkF m 92 #[.val (.ref o0), .val (.int p1), .val (.int p2), .val (.int (own_mn p2 (p1 + (998 : Int32)))), .val (.int (p1 + (12 : Int32)))] [])) := by
                                  intro  TJ75 lJ75 XJ75 eJ75 NJ75 hw1
                                  show Runs p e below _ (TJ75.setTop (mkF m 92 #[.val (.ref o0), .val (.int p1), .val (.int p2), .val (.int (own_mn p2 (p1 + (998 : Int32)))), .val (.int (p1 + (12 : Int32)))] []))
                                  refine Runs.by (fun _ hr => XS.iinc XJ75.here hx rfl (hb hby d8_92) rfl (l' := #[.val (.ref o0), .val (.int p1), .val (.int p2), .val (.int (own_mn p2 (p1 + (998 : Int32)))), .val (.int ((p1 + (12 : Int32)) + (1 : Int32)))]) rfl hr) ?_
                                  rw [show (p1 + (12 : Int32)) + (1 : Int32) = p1 + (13 : Int32) from own_as p1 (by decide)]
                                  refine Runs.by (fun _ hr => XS.goto XJ75.here hx rfl (pc0 := 95) (pc' := 68) rfl (hb hby d8_95) (by decide) (by decide) hr) ?_
                                  refine Runs.by (fun _ hr => XS.iload XJ75.here hx rfl (hb hby d8_68) rfl  hr) ?_
                                  show Runs p e below _ (TJ75.setTop (mkF m 70 #[.val (.ref o0), .val (.int p1), .val (.int p2), .val (.int (own_mn p2 (p1 + (998 : Int32)))), .val (.int (p1 + (13 : Int32)))] [(.int (p1 + (13 : Int32)))]))
                                  refine Runs.by (fun _ hr => XS.iloadN XJ75.here hx rfl (hb hby d8_70) rfl  hr) ?_
                                  by_cases ha2 : (p1 + (13 : Int32)) < (own_mn p2 (p1 + (998 : Int32)))
                                  · -- pc 71: (p1 + (13 : Int32)) < (own_mn p2 (p1 + (998 : Int32)))
                                    refine Runs.by (fun _ hr => XS.icmpNo XJ75.here hx rfl (hb hby d8_71) rfl (tlt ha2).2.1 hr) ?_
                                    have JB2 : ∀  (TJ76 : State) (lJ76 : List Loc) (XJ76 : Stand p l e ({ frames := 1, cells := 0, slots := 0, locals := 16 } : Room) s m #[(.ref o0), (.int p1), (.int p2)] below meth c TJ76 lJ76 0 0) (eJ76 : TJ76.heap = h0) (NJ76 : Fr n0 lJ76) (hw2 : wl (f + 13) = 32 ∨ wl (f + 13) = 9), Runs p e below (QE s (Q_rm8 Z o0 p1 p2 kl wl f lo ko h0 n0) ({ frames := 1, cells := 0, slots := 0, locals := 16 } : Room).cells ({ frames := 1, cells := 0, slots := 0, locals := 16 } : Room).slots) (TJ76.setTop (mkF m 92 #[.val (.ref o0), .val (.int p1), .val (.int p2), .val (.int (own_mn p2 (p1 + (998 : Int32)))), .val (.int (p1 + (13 : Int32)))] [])) := by
                                      intro  TJ76 lJ76 XJ76 eJ76 NJ76 hw2
                                      show Runs p e below _ (TJ76.setTop (mkF m 92 #[.val (.ref o0), .val (.int p1), .val (.int p2), .val (.int (own_mn p2 (p1 + (998 : Int32)))), .val (.int (p1 + (13 : Int32)))] []))
                                      refine Runs.by (fun _ hr => XS.iinc XJ76.here hx rfl (hb hby d8_92) rfl (l' := #[.val (.ref o0), .val (.int p1), .val (.int p2), .val (.int (own_mn p2 (p1 + (998 : Int32)))), .val (.int ((p1 + (13 : Int32)) + (1 : Int32)))]) rfl hr) ?_
                                      rw [show (p1 + (13 : Int32)) + (1 : Int32) = p1 + (14 : Int32) from own_as p1 (by decide)]
                                      refine Runs.by (fun _ hr => XS.goto XJ76.here hx rfl (pc0 := 95) (pc' := 68) rfl (hb hby d8_95) (by decide) (by decide) hr) ?_
                                      refine Runs.by (fun _ hr => XS.iload XJ76.here hx rfl (hb hby d8_68) rfl  hr) ?_
                                      show Runs p e below _ (TJ76.setTop (mkF m 70 #[.val (.ref o0), .val (.int p1), .val (.int p2), .val (.int (own_mn p2 (p1 + (998 : Int32)))), .val (.int (p1 + (14 : Int32)))] [(.int (p1 + (14 : Int32)))]))
                                      refine Runs.by (fun _ hr => XS.iloadN XJ76.here hx rfl (hb hby d8_70) rfl  hr) ?_
                                      by_cases ha3 : (p1 + (14 : Int32)) < (own_mn p2 (p1 + (998 : Int32)))
                                      · -- pc 71: (p1 + (14 : Int32)) < (own_mn p2 (p1 + (998 : Int32)))
                                        refine Runs.by (fun _ hr => XS.icmpNo XJ76.here hx rfl (hb hby d8_71) rfl (tlt ha3).2.1 hr) ?_
                                        have JB3 : ∀  (TJ77 : State) (lJ77 : List Loc) (XJ77 : Stand p l e ({ frames := 1, cells := 0, slots := 0, locals := 16 } : Room) s m #[(.ref o0), (.int p1), (.int p2)] below meth c TJ77 lJ77 0 0) (eJ77 : TJ77.heap = h0) (NJ77 : Fr n0 lJ77) (hw3 : wl (f + 14) = 32 ∨ wl (f + 14) = 9), Runs p e below (QE s (Q_rm8 Z o0 p1 p2 kl wl f lo ko h0 n0) ({ frames := 1, cells := 0, slots := 0, locals := 16 } : Room).cells ({ frames := 1, cells := 0, slots := 0, locals := 16 } : Room).slots) (TJ77.setTop (mkF m 92 #[.val (.ref o0), .val (.int p1), .val (.int p2), .val (.int (own_mn p2 (p1 + (998 : Int32)))), .val (.int (p1 + (14 : Int32)))] [])) := by
                                          intro  TJ77 lJ77 XJ77 eJ77 NJ77 hw3
                                          show Runs p e below _ (TJ77.setTop (mkF m 92 #[.val (.ref o0), .val (.int p1), .val (.int p2), .val (.int (own_mn p2 (p1 + (998 : Int32)))), .val (.int (p1 + (14 : Int32)))] []))
                                          refine Runs.by (fun _ hr => XS.iinc XJ77.here hx rfl (hb hby d8_92) rfl (l' := #[.val (.ref o0), .val (.int p1), .val (.int p2), .val (.int (own_mn p2 (p1 + (998 : Int32)))), .val (.int ((p1 + (14 : Int32)) + (1 : Int32)))]) rfl hr) ?_
                                          rw [show (p1 + (14 : Int32)) + (1 : Int32) = p1 + (15 : Int32) from own_as p1 (by decide)]
                                          refine Runs.by (fun _ hr => XS.goto XJ77.here hx rfl (pc0 := 95) (pc' := 68) rfl (hb hby d8_95) (by decide) (by decide) hr) ?_
                                          refine Runs.by (fun _ hr => XS.iload XJ77.here hx rfl (hb hby d8_68) rfl  hr) ?_
                                          show Runs p e below _ (TJ77.setTop (mkF m 70 #[.val (.ref o0), .val (.int p1), .val (.int p2), .val (.int (own_mn p2 (p1 + (998 : Int32)))), .val (.int (p1 + (15 : Int32)))] [(.int (p1 + (15 : Int32)))]))
                                          refine Runs.by (fun _ hr => XS.iloadN XJ77.here hx rfl (hb hby d8_70) rfl  hr) ?_
                                          by_cases ha4 : (p1 + (15 : Int32)) < (own_mn p2 (p1 + (998 : Int32)))
                                          · -- pc 71: (p1 + (15 : Int32)) < (own_mn p2 (p1 + (998 : Int32)))
                                            refine Runs.by (fun _ hr => XS.icmpNo XJ77.here hx rfl (hb hby d8_71) rfl (tlt ha4).2.1 hr) ?_
                                            refine Runs.by (fun _ hr => XS.aloadN XJ77.here hx rfl (hb hby d8_74) rfl rfl hr) ?_
                                            show Runs p e below _ (TJ77.setTop (mkF m 75 #[.val (.ref o0), .val (.int p1), .val (.int p2), .val (.int (own_mn p2 (p1 + (998 : Int32)))), .val (.int (p1 + (15 : Int32)))] [(.ref o0)]))
                                            refine Runs.by (fun _ hr => XS.iload XJ77.here hx rfl (hb hby d8_75) rfl  hr) ?_
                                            show Runs p e below _ (TJ77.setTop (mkF m 77 #[.val (.ref o0), .val (.int p1), .val (.int p2), .val (.int (own_mn p2 (p1 + (998 : Int32)))), .val (.int (p1 + (15 : Int32)))] [(.int (p1 + (15 : Int32))), (.ref o0)]))
                                            obtain ⟨cl78, Ar78, -, S78, N78', H78⟩ := id GL
                                            have ix78 := own_ix (j := (p1 + (15 : Int32))) (z := (24 : Int32)) (n := f + 15) (own_ad hf h3 (n := 15) (by decide) (by decide)) (own_ad24 hf h3 (n := 15) (by decide) (by decide))
                                            have hin78 : ¬ ((p1 + (15 : Int32)) < 0 ∨ cl78.slots.size ≤ ((p1 + (15 : Int32))).toNatClampNeg) := inb_of S78 ix78.1
                                            have hat78 : cl78.slots[((p1 + (15 : Int32))).toNatClampNeg]? = some (.int (wl (f + 15))) := by rw [ix78.2.1]; exact H78 _ ix78.2.2
                                            refine Runs.by (fun t hr => XJ77.baloadBytes hx (j := (p1 + (15 : Int32))) (v := (.int (wl (f + 15)))) (by rw [eJ77]; exact Ar78.1) (State.isArrayOf_alike hZ.alike Ar78.2.1) Ar78.2.2 hin78 hat78 (g := (mkF m 77 #[.val (.ref o0), .val (.int p1), .val (.int p2), .val (.int (own_mn p2 (p1 + (998 : Int32)))), .val (.int (p1 + (15 : Int32)))] [(.int (p1 + (15 : Int32))), (.ref o0)])) rfl rfl (hb hby d8_77) t hr) ?_
                                            refine Runs.by (fun _ hr => XS.bipush XJ77.here hx rfl (hb hby d8_78) hr) ?_
                                            have hc80 : ¬ ((wl (f + 15)) = (32 : Int32)) := (by rw [h15]; decide)
                                            refine Runs.by (fun _ hr => XS.icmpNo XJ77.here hx rfl (hb hby d8_80) rfl (feq hc80).1 hr) ?_
                                            show Runs p e below _ (TJ77.setTop (mkF m 83 #[.val (.ref o0), .val (.int p1), .val (.int p2), .val (.int (own_mn p2 (p1 + (998 : Int32)))), .val (.int (p1 + (15 : Int32)))] []))
                                            refine Runs.by (fun _ hr => XS.aloadN XJ77.here hx rfl (hb hby d8_83) rfl rfl hr) ?_
                                            refine Runs.by (fun _ hr => XS.iload XJ77.here hx rfl (hb hby d8_84) rfl  hr) ?_
                                            show Runs p e below _ (TJ77.setTop (mkF m 86 #[.val (.ref o0), .val (.int p1), .val (.int p2), .val (.int (own_mn p2 (p1 + (998 : Int32)))), .val (.int (p1 + (15 : Int32)))] [(.int (p1 + (15 : Int32))), (.ref o0)]))
                                            obtain ⟨cl79, Ar79, -, S79, N79', H79⟩ := id GL
                                            have ix79 := own_ix (j := (p1 + (15 : Int32))) (z := (24 : Int32)) (n := f + 15) (own_ad hf h3 (n := 15) (by decide) (by decide)) (own_ad24 hf h3 (n := 15) (by decide) (by decide))
                                            have hin79 : ¬ ((p1 + (15 : Int32)) < 0 ∨ cl79.slots.size ≤ ((p1 + (15 : Int32))).toNatClampNeg) := inb_of S79 ix79.1
                                            have hat79 : cl79.slots[((p1 + (15 : Int32))).toNatClampNeg]? = some (.int (wl (f + 15))) := by rw [ix79.2.1]; exact H79 _ ix79.2.2
                                            refine Runs.by (fun t hr => XJ77.baloadBytes hx (j := (p1 + (15 : Int32))) (v := (.int (wl (f + 15)))) (by rw [eJ77]; exact Ar79.1) (State.isArrayOf_alike hZ.alike Ar79.2.1) Ar79.2.2 hin79 hat79 (g := (mkF m 86 #[.val (.ref o0), .val (.int p1), .val (.int p2), .val (.int (own_mn p2 (p1 + (998 : Int32)))), .val (.int (p1 + (15 : Int32)))] [(.int (p1 + (15 : Int32))), (.ref o0)])) rfl rfl (hb hby d8_86) t hr) ?_
                                            refine Runs.by (fun _ hr => XS.bipush XJ77.here hx rfl (hb hby d8_87) hr) ?_
                                            have hc89 : ¬ ((wl (f + 15)) = (9 : Int32)) := (by rw [h15]; decide)
                                            refine Runs.by (fun _ hr => XS.icmpYes XJ77.here hx rfl (pc0 := 89) (pc' := 98) rfl (hb hby d8_89) rfl (feq hc89).2 (by decide) (by decide) hr) ?_
                                            show Runs p e below _ (TJ77.setTop (mkF m 98 #[.val (.ref o0), .val (.int p1), .val (.int p2), .val (.int (own_mn p2 (p1 + (998 : Int32)))), .val (.int (p1 + (15 : Int32)))] []))
                                            refine Runs.by (fun _ hr => XS.iload XJ77.here hx rfl (hb hby d8_98) rfl  hr) ?_
                                            refine Runs.by (fun _ hr => XS.iloadN XJ77.here hx rfl (hb hby d8_100) rfl  hr) ?_
                                            have hc101 : (p1 + (15 : Int32)) < (own_mn p2 (p1 + (998 : Int32))) := ha4
                                            refine Runs.by (fun _ hr => XS.icmpNo XJ77.here hx rfl (hb hby d8_101) rfl (tlt hc101).2.1 hr) ?_
                                            show Runs p e below _ (TJ77.setTop (mkF m 104 #[.val (.ref o0), .val (.int p1), .val (.int p2), .val (.int (own_mn p2 (p1 + (998 : Int32)))), .val (.int (p1 + (15 : Int32)))] []))
                                            refine Runs.by (fun _ hr => XS.aloadN XJ77.here hx rfl (hb hby d8_104) rfl rfl hr) ?_
                                            refine Runs.by (fun _ hr => XS.iload XJ77.here hx rfl (hb hby d8_105) rfl  hr) ?_
                                            show Runs p e below _ (TJ77.setTop (mkF m 107 #[.val (.ref o0), .val (.int p1), .val (.int p2), .val (.int (own_mn p2 (p1 + (998 : Int32)))), .val (.int (p1 + (15 : Int32)))] [(.int (p1 + (15 : Int32))), (.ref o0)]))
                                            obtain ⟨cl80, Ar80, -, S80, N80', H80⟩ := id GL
                                            have ix80 := own_ix (j := (p1 + (15 : Int32))) (z := (24 : Int32)) (n := f + 15) (own_ad hf h3 (n := 15) (by decide) (by decide)) (own_ad24 hf h3 (n := 15) (by decide) (by decide))
                                            have hin80 : ¬ ((p1 + (15 : Int32)) < 0 ∨ cl80.slots.size ≤ ((p1 + (15 : Int32))).toNatClampNeg) := inb_of S80 ix80.1
                                            have hat80 : cl80.slots[((p1 + (15 : Int32))).toNatClampNeg]? = some (.int (wl (f + 15))) := by rw [ix80.2.1]; exact H80 _ ix80.2.2
                                            refine Runs.by (fun t hr => XJ77.baloadBytes hx (j := (p1 + (15 : Int32))) (v := (.int (wl (f + 15)))) (by rw [eJ77]; exact Ar80.1) (State.isArrayOf_alike hZ.alike Ar80.2.1) Ar80.2.2 hin80 hat80 (g := (mkF m 107 #[.val (.ref o0), .val (.int p1), .val (.int p2), .val (.int (own_mn p2 (p1 + (998 : Int32)))), .val (.int (p1 + (15 : Int32)))] [(.int (p1 + (15 : Int32))), (.ref o0)])) rfl rfl (hb hby d8_107) t hr) ?_
                                            refine Runs.by (fun _ hr => XS.bipush XJ77.here hx rfl (hb hby d8_108) hr) ?_
                                            have hc110 : ¬ ((wl (f + 15)) = (58 : Int32)) := (by rw [h15]; decide)
                                            refine Runs.by (fun _ hr => XS.icmpYes XJ77.here hx rfl (pc0 := 110) (pc' := 117) rfl (hb hby d8_110) rfl (feq hc110).2 (by decide) (by decide) hr) ?_
                                            show Runs p e below _ (TJ77.setTop (mkF m 117 #[.val (.ref o0), .val (.int p1), .val (.int p2), .val (.int (own_mn p2 (p1 + (998 : Int32)))), .val (.int (p1 + (15 : Int32)))] []))
                                            refine Runs.by (fun _ hr => XS.iconst XJ77.here hx rfl (hb hby d8_117) hr) ?_
                                            show Runs p e below _ (TJ77.setTop (mkF m 118 #[.val (.ref o0), .val (.int p1), .val (.int p2), .val (.int (own_mn p2 (p1 + (998 : Int32)))), .val (.int (p1 + (15 : Int32)))] [(.int (0 : Int32))]))
                                            refine Runs.ret XJ77 hx hrt hlk (Or.inl ⟨rfl, by simp, _, rfl⟩) (by rfl) (hb hby d8_118) (by decide) (by decide) ?_
                                            rw [eJ77]
                                            exact ⟨congrArg (fun z => some (Value.int z)) (Eq.symm (by rw [own_bg, if_pos hc17, if_pos hn0, if_pos hn1, if_pos hn2, if_pos hn3, if_pos hn4, if_pos hn5, if_pos hn6, if_pos hn7, if_pos hn8, if_pos hn9, if_pos hn10, own_t0, own_tjw ha0 hw0, own_t1, own_tjw ha1 hw1, own_t2, own_tjw ha2 hw2, own_t3, own_tjw ha3 hw3])), NJ77, rfl⟩
                                          · -- pc 71: not (p1 + (15 : Int32)) < (own_mn p2 (p1 + (998 : Int32)))
                                            refine Runs.by (fun _ hr => XS.icmpYes XJ77.here hx rfl (pc0 := 71) (pc' := 98) rfl (hb hby d8_71) rfl (flt ha4).2.1 (by decide) (by decide) hr) ?_
                                            refine Runs.by (fun _ hr => XS.iload XJ77.here hx rfl (hb hby d8_98) rfl  hr) ?_
                                            show Runs p e below _ (TJ77.setTop (mkF m 100 #[.val (.ref o0), .val (.int p1), .val (.int p2), .val (.int (own_mn p2 (p1 + (998 : Int32)))), .val (.int (p1 + (15 : Int32)))] [(.int (p1 + (15 : Int32)))]))
                                            refine Runs.by (fun _ hr => XS.iloadN XJ77.here hx rfl (hb hby d8_100) rfl  hr) ?_
                                            have hc101 : ¬ ((p1 + (15 : Int32)) < (own_mn p2 (p1 + (998 : Int32)))) := ha4
                                            refine Runs.by (fun _ hr => XS.icmpYes XJ77.here hx rfl (pc0 := 101) (pc' := 117) rfl (hb hby d8_101) rfl (flt hc101).2.1 (by decide) (by decide) hr) ?_
                                            refine Runs.by (fun _ hr => XS.iconst XJ77.here hx rfl (hb hby d8_117) hr) ?_
                                            show Runs p e below _ (TJ77.setTop (mkF m 118 #[.val (.ref o0), .val (.int p1), .val (.int p2), .val (.int (own_mn p2 (p1 + (998 : Int32)))), .val (.int (p1 + (15 : Int32)))] [(.int (0 : Int32))]))
                                            refine Runs.ret XJ77 hx hrt hlk (Or.inl ⟨rfl, by simp, _, rfl⟩) (by rfl) (hb hby d8_118) (by decide) (by decide) ?_
                                            rw [eJ77]
                                            exact ⟨congrArg (fun z => some (Value.int z)) (Eq.symm (by rw [own_bg, if_pos hc17, if_pos hn0, if_pos hn1, if_pos hn2, if_pos hn3, if_pos hn4, if_pos hn5, if_pos hn6, if_pos hn7, if_pos hn8, if_pos hn9, if_pos hn10, own_t0, own_tjw ha0 hw0, own_t1, own_tjw ha1 hw1, own_t2, own_tjw ha2 hw2, own_t3, own_tjw ha3 hw3])), NJ77, rfl⟩
                                        refine Runs.by (fun _ hr => XS.aloadN XJ76.here hx rfl (hb hby d8_74) rfl rfl hr) ?_
                                        show Runs p e below _ (TJ76.setTop (mkF m 75 #[.val (.ref o0), .val (.int p1), .val (.int p2), .val (.int (own_mn p2 (p1 + (998 : Int32)))), .val (.int (p1 + (14 : Int32)))] [(.ref o0)]))
                                        refine Runs.by (fun _ hr => XS.iload XJ76.here hx rfl (hb hby d8_75) rfl  hr) ?_
                                        show Runs p e below _ (TJ76.setTop (mkF m 77 #[.val (.ref o0), .val (.int p1), .val (.int p2), .val (.int (own_mn p2 (p1 + (998 : Int32)))), .val (.int (p1 + (14 : Int32)))] [(.int (p1 + (14 : Int32))), (.ref o0)]))
                                        obtain ⟨cl81, Ar81, -, S81, N81', H81⟩ := id GL
                                        have ix81 := own_ix (j := (p1 + (14 : Int32))) (z := (24 : Int32)) (n := f + 14) (own_ad hf h3 (n := 14) (by decide) (by decide)) (own_ad24 hf h3 (n := 14) (by decide) (by decide))
                                        have hin81 : ¬ ((p1 + (14 : Int32)) < 0 ∨ cl81.slots.size ≤ ((p1 + (14 : Int32))).toNatClampNeg) := inb_of S81 ix81.1
                                        have hat81 : cl81.slots[((p1 + (14 : Int32))).toNatClampNeg]? = some (.int (wl (f + 14))) := by rw [ix81.2.1]; exact H81 _ ix81.2.2
                                        refine Runs.by (fun t hr => XJ76.baloadBytes hx (j := (p1 + (14 : Int32))) (v := (.int (wl (f + 14)))) (by rw [eJ76]; exact Ar81.1) (State.isArrayOf_alike hZ.alike Ar81.2.1) Ar81.2.2 hin81 hat81 (g := (mkF m 77 #[.val (.ref o0), .val (.int p1), .val (.int p2), .val (.int (own_mn p2 (p1 + (998 : Int32)))), .val (.int (p1 + (14 : Int32)))] [(.int (p1 + (14 : Int32))), (.ref o0)])) rfl rfl (hb hby d8_77) t hr) ?_
                                        refine Runs.by (fun _ hr => XS.bipush XJ76.here hx rfl (hb hby d8_78) hr) ?_
                                        by_cases hs3 : (wl (f + 14)) = (32 : Int32)
                                        · -- pc 80: (wl (f + 14)) = (32 : Int32)
                                          refine Runs.by (fun _ hr => XS.icmpYes XJ76.here hx rfl (pc0 := 80) (pc' := 92) rfl (hb hby d8_80) rfl (teq hs3).1 (by decide) (by decide) hr) ?_
                                          exact JB3  _ _ XJ76 eJ76 NJ76 (Or.inl hs3)
                                        · -- pc 80: not (wl (f + 14)) = (32 : Int32)
                                          refine Runs.by (fun _ hr => XS.icmpNo XJ76.here hx rfl (hb hby d8_80) rfl (feq hs3).1 hr) ?_
                                          show Runs p e below _ (TJ76.setTop (mkF m 83 #[.val (.ref o0), .val (.int p1), .val (.int p2), .val (.int (own_mn p2 (p1 + (998 : Int32)))), .val (.int (p1 + (14 : Int32)))] []))
                                          refine Runs.by (fun _ hr => XS.aloadN XJ76.here hx rfl (hb hby d8_83) rfl rfl hr) ?_
                                          refine Runs.by (fun _ hr => XS.iload XJ76.here hx rfl (hb hby d8_84) rfl  hr) ?_
                                          show Runs p e below _ (TJ76.setTop (mkF m 86 #[.val (.ref o0), .val (.int p1), .val (.int p2), .val (.int (own_mn p2 (p1 + (998 : Int32)))), .val (.int (p1 + (14 : Int32)))] [(.int (p1 + (14 : Int32))), (.ref o0)]))
                                          obtain ⟨cl82, Ar82, -, S82, N82', H82⟩ := id GL
                                          have ix82 := own_ix (j := (p1 + (14 : Int32))) (z := (24 : Int32)) (n := f + 14) (own_ad hf h3 (n := 14) (by decide) (by decide)) (own_ad24 hf h3 (n := 14) (by decide) (by decide))
                                          have hin82 : ¬ ((p1 + (14 : Int32)) < 0 ∨ cl82.slots.size ≤ ((p1 + (14 : Int32))).toNatClampNeg) := inb_of S82 ix82.1
                                          have hat82 : cl82.slots[((p1 + (14 : Int32))).toNatClampNeg]? = some (.int (wl (f + 14))) := by rw [ix82.2.1]; exact H82 _ ix82.2.2
                                          refine Runs.by (fun t hr => XJ76.baloadBytes hx (j := (p1 + (14 : Int32))) (v := (.int (wl (f + 14)))) (by rw [eJ76]; exact Ar82.1) (State.isArrayOf_alike hZ.alike Ar82.2.1) Ar82.2.2 hin82 hat82 (g := (mkF m 86 #[.val (.ref o0), .val (.int p1), .val (.int p2), .val (.int (own_mn p2 (p1 + (998 : Int32)))), .val (.int (p1 + (14 : Int32)))] [(.int (p1 + (14 : Int32))), (.ref o0)])) rfl rfl (hb hby d8_86) t hr) ?_
                                          refine Runs.by (fun _ hr => XS.bipush XJ76.here hx rfl (hb hby d8_87) hr) ?_
                                          by_cases ht3 : (wl (f + 14)) = (9 : Int32)
                                          · -- pc 89: (wl (f + 14)) = (9 : Int32)
                                            refine Runs.by (fun _ hr => XS.icmpNo XJ76.here hx rfl (hb hby d8_89) rfl (teq ht3).2 hr) ?_
                                            exact JB3  _ _ XJ76 eJ76 NJ76 (Or.inr ht3)
                                          · -- pc 89: not (wl (f + 14)) = (9 : Int32)
                                            refine Runs.by (fun _ hr => XS.icmpYes XJ76.here hx rfl (pc0 := 89) (pc' := 98) rfl (hb hby d8_89) rfl (feq ht3).2 (by decide) (by decide) hr) ?_
                                            show Runs p e below _ (TJ76.setTop (mkF m 98 #[.val (.ref o0), .val (.int p1), .val (.int p2), .val (.int (own_mn p2 (p1 + (998 : Int32)))), .val (.int (p1 + (14 : Int32)))] []))
                                            refine Runs.by (fun _ hr => XS.iload XJ76.here hx rfl (hb hby d8_98) rfl  hr) ?_
                                            refine Runs.by (fun _ hr => XS.iloadN XJ76.here hx rfl (hb hby d8_100) rfl  hr) ?_
                                            have hc101 : (p1 + (14 : Int32)) < (own_mn p2 (p1 + (998 : Int32))) := ha3
                                            refine Runs.by (fun _ hr => XS.icmpNo XJ76.here hx rfl (hb hby d8_101) rfl (tlt hc101).2.1 hr) ?_
                                            show Runs p e below _ (TJ76.setTop (mkF m 104 #[.val (.ref o0), .val (.int p1), .val (.int p2), .val (.int (own_mn p2 (p1 + (998 : Int32)))), .val (.int (p1 + (14 : Int32)))] []))
                                            refine Runs.by (fun _ hr => XS.aloadN XJ76.here hx rfl (hb hby d8_104) rfl rfl hr) ?_
                                            refine Runs.by (fun _ hr => XS.iload XJ76.here hx rfl (hb hby d8_105) rfl  hr) ?_
                                            show Runs p e below _ (TJ76.setTop (mkF m 107 #[.val (.ref o0), .val (.int p1), .val (.int p2), .val (.int (own_mn p2 (p1 + (998 : Int32)))), .val (.int (p1 + (14 : Int32)))] [(.int (p1 + (14 : Int32))), (.ref o0)]))
                                            obtain ⟨cl83, Ar83, -, S83, N83', H83⟩ := id GL
                                            have ix83 := own_ix (j := (p1 + (14 : Int32))) (z := (24 : Int32)) (n := f + 14) (own_ad hf h3 (n := 14) (by decide) (by decide)) (own_ad24 hf h3 (n := 14) (by decide) (by decide))
                                            have hin83 : ¬ ((p1 + (14 : Int32)) < 0 ∨ cl83.slots.size ≤ ((p1 + (14 : Int32))).toNatClampNeg) := inb_of S83 ix83.1
                                            have hat83 : cl83.slots[((p1 + (14 : Int32))).toNatClampNeg]? = some (.int (wl (f + 14))) := by rw [ix83.2.1]; exact H83 _ ix83.2.2
                                            refine Runs.by (fun t hr => XJ76.baloadBytes hx (j := (p1 + (14 : Int32))) (v := (.int (wl (f + 14)))) (by rw [eJ76]; exact Ar83.1) (State.isArrayOf_alike hZ.alike Ar83.2.1) Ar83.2.2 hin83 hat83 (g := (mkF m 107 #[.val (.ref o0), .val (.int p1), .val (.int p2), .val (.int (own_mn p2 (p1 + (998 : Int32)))), .val (.int (p1 + (14 : Int32)))] [(.int (p1 + (14 : Int32))), (.ref o0)])) rfl rfl (hb hby d8_107) t hr) ?_
                                            refine Runs.by (fun _ hr => XS.bipush XJ76.here hx rfl (hb hby d8_108) hr) ?_
                                            by_cases hk3 : (wl (f + 14)) = (58 : Int32)
                                            · -- pc 110: (wl (f + 14)) = (58 : Int32)
                                              refine Runs.by (fun _ hr => XS.icmpNo XJ76.here hx rfl (hb hby d8_110) rfl (teq hk3).2 hr) ?_
                                              show Runs p e below _ (TJ76.setTop (mkF m 113 #[.val (.ref o0), .val (.int p1), .val (.int p2), .val (.int (own_mn p2 (p1 + (998 : Int32)))), .val (.int (p1 + (14 : Int32)))] []))
                                              refine Runs.by (fun _ hr => XS.iconst XJ76.here hx rfl (hb hby d8_113) hr) ?_
                                              refine Runs.by (fun _ hr => XS.goto XJ76.here hx rfl (pc0 := 114) (pc' := 118) rfl (hb hby d8_114) (by decide) (by decide) hr) ?_
                                              show Runs p e below _ (TJ76.setTop (mkF m 118 #[.val (.ref o0), .val (.int p1), .val (.int p2), .val (.int (own_mn p2 (p1 + (998 : Int32)))), .val (.int (p1 + (14 : Int32)))] [(.int (1 : Int32))]))
                                              refine Runs.ret XJ76 hx hrt hlk (Or.inl ⟨rfl, by simp, _, rfl⟩) (by rfl) (hb hby d8_118) (by decide) (by decide) ?_
                                              rw [eJ76]
                                              exact ⟨congrArg (fun z => some (Value.int z)) (Eq.symm (by rw [own_bg, if_pos hc17, if_pos hn0, if_pos hn1, if_pos hn2, if_pos hn3, if_pos hn4, if_pos hn5, if_pos hn6, if_pos hn7, if_pos hn8, if_pos hn9, if_pos hn10, own_t0, own_tjw ha0 hw0, own_t1, own_tjw ha1 hw1, own_t2, own_tjw ha2 hw2, own_t3, own_tj1 ha3 hs3 ht3 hk3])), NJ76, rfl⟩
                                            · -- pc 110: not (wl (f + 14)) = (58 : Int32)
                                              refine Runs.by (fun _ hr => XS.icmpYes XJ76.here hx rfl (pc0 := 110) (pc' := 117) rfl (hb hby d8_110) rfl (feq hk3).2 (by decide) (by decide) hr) ?_
                                              show Runs p e below _ (TJ76.setTop (mkF m 117 #[.val (.ref o0), .val (.int p1), .val (.int p2), .val (.int (own_mn p2 (p1 + (998 : Int32)))), .val (.int (p1 + (14 : Int32)))] []))
                                              refine Runs.by (fun _ hr => XS.iconst XJ76.here hx rfl (hb hby d8_117) hr) ?_
                                              show Runs p e below _ (TJ76.setTop (mkF m 118 #[.val (.ref o0), .val (.int p1), .val (.int p2), .val (.int (own_mn p2 (p1 + (998 : Int32)))), .val (.int (p1 + (14 : Int32)))] [(.int (0 : Int32))]))
                                              refine Runs.ret XJ76 hx hrt hlk (Or.inl ⟨rfl, by simp, _, rfl⟩) (by rfl) (hb hby d8_118) (by decide) (by decide) ?_
                                              rw [eJ76]
                                              exact ⟨congrArg (fun z => some (Value.int z)) (Eq.symm (by rw [own_bg, if_pos hc17, if_pos hn0, if_pos hn1, if_pos hn2, if_pos hn3, if_pos hn4, if_pos hn5, if_pos hn6, if_pos hn7, if_pos hn8, if_pos hn9, if_pos hn10, own_t0, own_tjw ha0 hw0, own_t1, own_tjw ha1 hw1, own_t2, own_tjw ha2 hw2, own_t3, own_tj0 ha3 hs3 ht3 hk3])), NJ76, rfl⟩
                                      · -- pc 71: not (p1 + (14 : Int32)) < (own_mn p2 (p1 + (998 : Int32)))
                                        refine Runs.by (fun _ hr => XS.icmpYes XJ76.here hx rfl (pc0 := 71) (pc' := 98) rfl (hb hby d8_71) rfl (flt ha3).2.1 (by decide) (by decide) hr) ?_
                                        refine Runs.by (fun _ hr => XS.iload XJ76.here hx rfl (hb hby d8_98) rfl  hr) ?_
                                        show Runs p e below _ (TJ76.setTop (mkF m 100 #[.val (.ref o0), .val (.int p1), .val (.int p2), .val (.int (own_mn p2 (p1 + (998 : Int32)))), .val (.int (p1 + (14 : Int32)))] [(.int (p1 + (14 : Int32)))]))
                                        refine Runs.by (fun _ hr => XS.iloadN XJ76.here hx rfl (hb hby d8_100) rfl  hr) ?_
                                        have hc101 : ¬ ((p1 + (14 : Int32)) < (own_mn p2 (p1 + (998 : Int32)))) := ha3
                                        refine Runs.by (fun _ hr => XS.icmpYes XJ76.here hx rfl (pc0 := 101) (pc' := 117) rfl (hb hby d8_101) rfl (flt hc101).2.1 (by decide) (by decide) hr) ?_
                                        refine Runs.by (fun _ hr => XS.iconst XJ76.here hx rfl (hb hby d8_117) hr) ?_
                                        show Runs p e below _ (TJ76.setTop (mkF m 118 #[.val (.ref o0), .val (.int p1), .val (.int p2), .val (.int (own_mn p2 (p1 + (998 : Int32)))), .val (.int (p1 + (14 : Int32)))] [(.int (0 : Int32))]))
                                        refine Runs.ret XJ76 hx hrt hlk (Or.inl ⟨rfl, by simp, _, rfl⟩) (by rfl) (hb hby d8_118) (by decide) (by decide) ?_
                                        rw [eJ76]
                                        exact ⟨congrArg (fun z => some (Value.int z)) (Eq.symm (by rw [own_bg, if_pos hc17, if_pos hn0, if_pos hn1, if_pos hn2, if_pos hn3, if_pos hn4, if_pos hn5, if_pos hn6, if_pos hn7, if_pos hn8, if_pos hn9, if_pos hn10, own_t0, own_tjw ha0 hw0, own_t1, own_tjw ha1 hw1, own_t2, own_tjw ha2 hw2, own_t3, own_tjn ha3])), NJ76, rfl⟩
                                    refine Runs.by (fun _ hr => XS.aloadN XJ75.here hx rfl (hb hby d8_74) rfl rfl hr) ?_
                                    show Runs p e below _ (TJ75.setTop (mkF m 75 #[.val (.ref o0), .val (.int p1), .val (.int p2), .val (.int (own_mn p2 (p1 + (998 : Int32)))), .val (.int (p1 + (13 : Int32)))] [(.ref o0)]))
                                    refine Runs.by (fun _ hr => XS.iload XJ75.here hx rfl (hb hby d8_75) rfl  hr) ?_
                                    show Runs p e below _ (TJ75.setTop (mkF m 77 #[.val (.ref o0), .val (.int p1), .val (.int p2), .val (.int (own_mn p2 (p1 + (998 : Int32)))), .val (.int (p1 + (13 : Int32)))] [(.int (p1 + (13 : Int32))), (.ref o0)]))
                                    obtain ⟨cl84, Ar84, -, S84, N84', H84⟩ := id GL
                                    have ix84 := own_ix (j := (p1 + (13 : Int32))) (z := (24 : Int32)) (n := f + 13) (own_ad hf h3 (n := 13) (by decide) (by decide)) (own_ad24 hf h3 (n := 13) (by decide) (by decide))
                                    have hin84 : ¬ ((p1 + (13 : Int32)) < 0 ∨ cl84.slots.size ≤ ((p1 + (13 : Int32))).toNatClampNeg) := inb_of S84 ix84.1
                                    have hat84 : cl84.slots[((p1 + (13 : Int32))).toNatClampNeg]? = some (.int (wl (f + 13))) := by rw [ix84.2.1]; exact H84 _ ix84.2.2
                                    refine Runs.by (fun t hr => XJ75.baloadBytes hx (j := (p1 + (13 : Int32))) (v := (.int (wl (f + 13)))) (by rw [eJ75]; exact Ar84.1) (State.isArrayOf_alike hZ.alike Ar84.2.1) Ar84.2.2 hin84 hat84 (g := (mkF m 77 #[.val (.ref o0), .val (.int p1), .val (.int p2), .val (.int (own_mn p2 (p1 + (998 : Int32)))), .val (.int (p1 + (13 : Int32)))] [(.int (p1 + (13 : Int32))), (.ref o0)])) rfl rfl (hb hby d8_77) t hr) ?_
                                    refine Runs.by (fun _ hr => XS.bipush XJ75.here hx rfl (hb hby d8_78) hr) ?_
                                    by_cases hs2 : (wl (f + 13)) = (32 : Int32)
                                    · -- pc 80: (wl (f + 13)) = (32 : Int32)
                                      refine Runs.by (fun _ hr => XS.icmpYes XJ75.here hx rfl (pc0 := 80) (pc' := 92) rfl (hb hby d8_80) rfl (teq hs2).1 (by decide) (by decide) hr) ?_
                                      exact JB2  _ _ XJ75 eJ75 NJ75 (Or.inl hs2)
                                    · -- pc 80: not (wl (f + 13)) = (32 : Int32)
                                      refine Runs.by (fun _ hr => XS.icmpNo XJ75.here hx rfl (hb hby d8_80) rfl (feq hs2).1 hr) ?_
                                      show Runs p e below _ (TJ75.setTop (mkF m 83 #[.val (.ref o0), .val (.int p1), .val (.int p2), .val (.int (own_mn p2 (p1 + (998 : Int32)))), .val (.int (p1 + (13 : Int32)))] []))
                                      refine Runs.by (fun _ hr => XS.aloadN XJ75.here hx rfl (hb hby d8_83) rfl rfl hr) ?_
                                      refine Runs.by (fun _ hr => XS.iload XJ75.here hx rfl (hb hby d8_84) rfl  hr) ?_
                                      show Runs p e below _ (TJ75.setTop (mkF m 86 #[.val (.ref o0), .val (.int p1), .val (.int p2), .val (.int (own_mn p2 (p1 + (998 : Int32)))), .val (.int (p1 + (13 : Int32)))] [(.int (p1 + (13 : Int32))), (.ref o0)]))
                                      obtain ⟨cl85, Ar85, -, S85, N85', H85⟩ := id GL
                                      have ix85 := own_ix (j := (p1 + (13 : Int32))) (z := (24 : Int32)) (n := f + 13) (own_ad hf h3 (n := 13) (by decide) (by decide)) (own_ad24 hf h3 (n := 13) (by decide) (by decide))
                                      have hin85 : ¬ ((p1 + (13 : Int32)) < 0 ∨ cl85.slots.size ≤ ((p1 + (13 : Int32))).toNatClampNeg) := inb_of S85 ix85.1
                                      have hat85 : cl85.slots[((p1 + (13 : Int32))).toNatClampNeg]? = some (.int (wl (f + 13))) := by rw [ix85.2.1]; exact H85 _ ix85.2.2
                                      refine Runs.by (fun t hr => XJ75.baloadBytes hx (j := (p1 + (13 : Int32))) (v := (.int (wl (f + 13)))) (by rw [eJ75]; exact Ar85.1) (State.isArrayOf_alike hZ.alike Ar85.2.1) Ar85.2.2 hin85 hat85 (g := (mkF m 86 #[.val (.ref o0), .val (.int p1), .val (.int p2), .val (.int (own_mn p2 (p1 + (998 : Int32)))), .val (.int (p1 + (13 : Int32)))] [(.int (p1 + (13 : Int32))), (.ref o0)])) rfl rfl (hb hby d8_86) t hr) ?_
                                      refine Runs.by (fun _ hr => XS.bipush XJ75.here hx rfl (hb hby d8_87) hr) ?_
                                      by_cases ht2 : (wl (f + 13)) = (9 : Int32)
                                      · -- pc 89: (wl (f + 13)) = (9 : Int32)
                                        refine Runs.by (fun _ hr => XS.icmpNo XJ75.here hx rfl (hb hby d8_89) rfl (teq ht2).2 hr) ?_
                                        exact JB2  _ _ XJ75 eJ75 NJ75 (Or.inr ht2)
                                      · -- pc 89: not (wl (f + 13)) = (9 : Int32)
                                        refine Runs.by (fun _ hr => XS.icmpYes XJ75.here hx rfl (pc0 := 89) (pc' := 98) rfl (hb hby d8_89) rfl (feq ht2).2 (by decide) (by decide) hr) ?_
                                        show Runs p e below _ (TJ75.setTop (mkF m 98 #[.val (.ref o0), .val (.int p1), .val (.int p2), .val (.int (own_mn p2 (p1 + (998 : Int32)))), .val (.int (p1 + (13 : Int32)))] []))
                                        refine Runs.by (fun _ hr => XS.iload XJ75.here hx rfl (hb hby d8_98) rfl  hr) ?_
                                        refine Runs.by (fun _ hr => XS.iloadN XJ75.here hx rfl (hb hby d8_100) rfl  hr) ?_
                                        have hc101 : (p1 + (13 : Int32)) < (own_mn p2 (p1 + (998 : Int32))) := ha2
                                        refine Runs.by (fun _ hr => XS.icmpNo XJ75.here hx rfl (hb hby d8_101) rfl (tlt hc101).2.1 hr) ?_
                                        show Runs p e below _ (TJ75.setTop (mkF m 104 #[.val (.ref o0), .val (.int p1), .val (.int p2), .val (.int (own_mn p2 (p1 + (998 : Int32)))), .val (.int (p1 + (13 : Int32)))] []))
                                        refine Runs.by (fun _ hr => XS.aloadN XJ75.here hx rfl (hb hby d8_104) rfl rfl hr) ?_
                                        refine Runs.by (fun _ hr => XS.iload XJ75.here hx rfl (hb hby d8_105) rfl  hr) ?_
                                        show Runs p e below _ (TJ75.setTop (mkF m 107 #[.val (.ref o0), .val (.int p1), .val (.int p2), .val (.int (own_mn p2 (p1 + (998 : Int32)))), .val (.int (p1 + (13 : Int32)))] [(.int (p1 + (13 : Int32))), (.ref o0)]))
                                        obtain ⟨cl86, Ar86, -, S86, N86', H86⟩ := id GL
                                        have ix86 := own_ix (j := (p1 + (13 : Int32))) (z := (24 : Int32)) (n := f + 13) (own_ad hf h3 (n := 13) (by decide) (by decide)) (own_ad24 hf h3 (n := 13) (by decide) (by decide))
                                        have hin86 : ¬ ((p1 + (13 : Int32)) < 0 ∨ cl86.slots.size ≤ ((p1 + (13 : Int32))).toNatClampNeg) := inb_of S86 ix86.1
                                        have hat86 : cl86.slots[((p1 + (13 : Int32))).toNatClampNeg]? = some (.int (wl (f + 13))) := by rw [ix86.2.1]; exact H86 _ ix86.2.2
                                        refine Runs.by (fun t hr => XJ75.baloadBytes hx (j := (p1 + (13 : Int32))) (v := (.int (wl (f + 13)))) (by rw [eJ75]; exact Ar86.1) (State.isArrayOf_alike hZ.alike Ar86.2.1) Ar86.2.2 hin86 hat86 (g := (mkF m 107 #[.val (.ref o0), .val (.int p1), .val (.int p2), .val (.int (own_mn p2 (p1 + (998 : Int32)))), .val (.int (p1 + (13 : Int32)))] [(.int (p1 + (13 : Int32))), (.ref o0)])) rfl rfl (hb hby d8_107) t hr) ?_
                                        refine Runs.by (fun _ hr => XS.bipush XJ75.here hx rfl (hb hby d8_108) hr) ?_
                                        by_cases hk2 : (wl (f + 13)) = (58 : Int32)
                                        · -- pc 110: (wl (f + 13)) = (58 : Int32)
                                          refine Runs.by (fun _ hr => XS.icmpNo XJ75.here hx rfl (hb hby d8_110) rfl (teq hk2).2 hr) ?_
                                          show Runs p e below _ (TJ75.setTop (mkF m 113 #[.val (.ref o0), .val (.int p1), .val (.int p2), .val (.int (own_mn p2 (p1 + (998 : Int32)))), .val (.int (p1 + (13 : Int32)))] []))
                                          refine Runs.by (fun _ hr => XS.iconst XJ75.here hx rfl (hb hby d8_113) hr) ?_
                                          refine Runs.by (fun _ hr => XS.goto XJ75.here hx rfl (pc0 := 114) (pc' := 118) rfl (hb hby d8_114) (by decide) (by decide) hr) ?_
                                          show Runs p e below _ (TJ75.setTop (mkF m 118 #[.val (.ref o0), .val (.int p1), .val (.int p2), .val (.int (own_mn p2 (p1 + (998 : Int32)))), .val (.int (p1 + (13 : Int32)))] [(.int (1 : Int32))]))
                                          refine Runs.ret XJ75 hx hrt hlk (Or.inl ⟨rfl, by simp, _, rfl⟩) (by rfl) (hb hby d8_118) (by decide) (by decide) ?_
                                          rw [eJ75]
                                          exact ⟨congrArg (fun z => some (Value.int z)) (Eq.symm (by rw [own_bg, if_pos hc17, if_pos hn0, if_pos hn1, if_pos hn2, if_pos hn3, if_pos hn4, if_pos hn5, if_pos hn6, if_pos hn7, if_pos hn8, if_pos hn9, if_pos hn10, own_t0, own_tjw ha0 hw0, own_t1, own_tjw ha1 hw1, own_t2, own_tj1 ha2 hs2 ht2 hk2])), NJ75, rfl⟩
                                        · -- pc 110: not (wl (f + 13)) = (58 : Int32)
                                          refine Runs.by (fun _ hr => XS.icmpYes XJ75.here hx rfl (pc0 := 110) (pc' := 117) rfl (hb hby d8_110) rfl (feq hk2).2 (by decide) (by decide) hr) ?_
                                          show Runs p e below _ (TJ75.setTop (mkF m 117 #[.val (.ref o0), .val (.int p1), .val (.int p2), .val (.int (own_mn p2 (p1 + (998 : Int32)))), .val (.int (p1 + (13 : Int32)))] []))
                                          refine Runs.by (fun _ hr => XS.iconst XJ75.here hx rfl (hb hby d8_117) hr) ?_
                                          show Runs p e below _ (TJ75.setTop (mkF m 118 #[.val (.ref o0), .val (.int p1), .val (.int p2), .val (.int (own_mn p2 (p1 + (998 : Int32)))), .val (.int (p1 + (13 : Int32)))] [(.int (0 : Int32))]))
                                          refine Runs.ret XJ75 hx hrt hlk (Or.inl ⟨rfl, by simp, _, rfl⟩) (by rfl) (hb hby d8_118) (by decide) (by decide) ?_
                                          rw [eJ75]
                                          exact ⟨congrArg (fun z => some (Value.int z)) (Eq.symm (by rw [own_bg, if_pos hc17, if_pos hn0, if_pos hn1, if_pos hn2, if_pos hn3, if_pos hn4, if_pos hn5, if_pos hn6, if_pos hn7, if_pos hn8, if_pos hn9, if_pos hn10, own_t0, own_tjw ha0 hw0, own_t1, own_tjw ha1 hw1, own_t2, own_tj0 ha2 hs2 ht2 hk2])), NJ75, rfl⟩
                                  · -- pc 71: not (p1 + (13 : Int32)) < (own_mn p2 (p1 + (998 : Int32)))
                                    refine Runs.by (fun _ hr => XS.icmpYes XJ75.here hx rfl (pc0 := 71) (pc' := 98) rfl (hb hby d8_71) rfl (flt ha2).2.1 (by decide) (by decide) hr) ?_
                                    refine Runs.by (fun _ hr => XS.iload XJ75.here hx rfl (hb hby d8_98) rfl  hr) ?_
                                    show Runs p e below _ (TJ75.setTop (mkF m 100 #[.val (.ref o0), .val (.int p1), .val (.int p2), .val (.int (own_mn p2 (p1 + (998 : Int32)))), .val (.int (p1 + (13 : Int32)))] [(.int (p1 + (13 : Int32)))]))
                                    refine Runs.by (fun _ hr => XS.iloadN XJ75.here hx rfl (hb hby d8_100) rfl  hr) ?_
                                    have hc101 : ¬ ((p1 + (13 : Int32)) < (own_mn p2 (p1 + (998 : Int32)))) := ha2
                                    refine Runs.by (fun _ hr => XS.icmpYes XJ75.here hx rfl (pc0 := 101) (pc' := 117) rfl (hb hby d8_101) rfl (flt hc101).2.1 (by decide) (by decide) hr) ?_
                                    refine Runs.by (fun _ hr => XS.iconst XJ75.here hx rfl (hb hby d8_117) hr) ?_
                                    show Runs p e below _ (TJ75.setTop (mkF m 118 #[.val (.ref o0), .val (.int p1), .val (.int p2), .val (.int (own_mn p2 (p1 + (998 : Int32)))), .val (.int (p1 + (13 : Int32)))] [(.int (0 : Int32))]))
                                    refine Runs.ret XJ75 hx hrt hlk (Or.inl ⟨rfl, by simp, _, rfl⟩) (by rfl) (hb hby d8_118) (by decide) (by decide) ?_
                                    rw [eJ75]
                                    exact ⟨congrArg (fun z => some (Value.int z)) (Eq.symm (by rw [own_bg, if_pos hc17, if_pos hn0, if_pos hn1, if_pos hn2, if_pos hn3, if_pos hn4, if_pos hn5, if_pos hn6, if_pos hn7, if_pos hn8, if_pos hn9, if_pos hn10, own_t0, own_tjw ha0 hw0, own_t1, own_tjw ha1 hw1, own_t2, own_tjn ha2])), NJ75, rfl⟩
                                refine Runs.by (fun _ hr => XS.aloadN XJ74.here hx rfl (hb hby d8_74) rfl rfl hr) ?_
                                show Runs p e below _ (TJ74.setTop (mkF m 75 #[.val (.ref o0), .val (.int p1), .val (.int p2), .val (.int (own_mn p2 (p1 + (998 : Int32)))), .val (.int (p1 + (12 : Int32)))] [(.ref o0)]))
                                refine Runs.by (fun _ hr => XS.iload XJ74.here hx rfl (hb hby d8_75) rfl  hr) ?_
                                show Runs p e below _ (TJ74.setTop (mkF m 77 #[.val (.ref o0), .val (.int p1), .val (.int p2), .val (.int (own_mn p2 (p1 + (998 : Int32)))), .val (.int (p1 + (12 : Int32)))] [(.int (p1 + (12 : Int32))), (.ref o0)]))
                                obtain ⟨cl87, Ar87, -, S87, N87', H87⟩ := id GL
                                have ix87 := own_ix (j := (p1 + (12 : Int32))) (z := (24 : Int32)) (n := f + 12) (own_ad hf h3 (n := 12) (by decide) (by decide)) (own_ad24 hf h3 (n := 12) (by decide) (by decide))
                                have hin87 : ¬ ((p1 + (12 : Int32)) < 0 ∨ cl87.slots.size ≤ ((p1 + (12 : Int32))).toNatClampNeg) := inb_of S87 ix87.1
                                have hat87 : cl87.slots[((p1 + (12 : Int32))).toNatClampNeg]? = some (.int (wl (f + 12))) := by rw [ix87.2.1]; exact H87 _ ix87.2.2
                                refine Runs.by (fun t hr => XJ74.baloadBytes hx (j := (p1 + (12 : Int32))) (v := (.int (wl (f + 12)))) (by rw [eJ74]; exact Ar87.1) (State.isArrayOf_alike hZ.alike Ar87.2.1) Ar87.2.2 hin87 hat87 (g := (mkF m 77 #[.val (.ref o0), .val (.int p1), .val (.int p2), .val (.int (own_mn p2 (p1 + (998 : Int32)))), .val (.int (p1 + (12 : Int32)))] [(.int (p1 + (12 : Int32))), (.ref o0)])) rfl rfl (hb hby d8_77) t hr) ?_
                                refine Runs.by (fun _ hr => XS.bipush XJ74.here hx rfl (hb hby d8_78) hr) ?_
                                by_cases hs1 : (wl (f + 12)) = (32 : Int32)
                                · -- pc 80: (wl (f + 12)) = (32 : Int32)
                                  refine Runs.by (fun _ hr => XS.icmpYes XJ74.here hx rfl (pc0 := 80) (pc' := 92) rfl (hb hby d8_80) rfl (teq hs1).1 (by decide) (by decide) hr) ?_
                                  exact JB1  _ _ XJ74 eJ74 NJ74 (Or.inl hs1)
                                · -- pc 80: not (wl (f + 12)) = (32 : Int32)
                                  refine Runs.by (fun _ hr => XS.icmpNo XJ74.here hx rfl (hb hby d8_80) rfl (feq hs1).1 hr) ?_
                                  show Runs p e below _ (TJ74.setTop (mkF m 83 #[.val (.ref o0), .val (.int p1), .val (.int p2), .val (.int (own_mn p2 (p1 + (998 : Int32)))), .val (.int (p1 + (12 : Int32)))] []))
                                  refine Runs.by (fun _ hr => XS.aloadN XJ74.here hx rfl (hb hby d8_83) rfl rfl hr) ?_
                                  refine Runs.by (fun _ hr => XS.iload XJ74.here hx rfl (hb hby d8_84) rfl  hr) ?_
                                  show Runs p e below _ (TJ74.setTop (mkF m 86 #[.val (.ref o0), .val (.int p1), .val (.int p2), .val (.int (own_mn p2 (p1 + (998 : Int32)))), .val (.int (p1 + (12 : Int32)))] [(.int (p1 + (12 : Int32))), (.ref o0)]))
                                  obtain ⟨cl88, Ar88, -, S88, N88', H88⟩ := id GL
                                  have ix88 := own_ix (j := (p1 + (12 : Int32))) (z := (24 : Int32)) (n := f + 12) (own_ad hf h3 (n := 12) (by decide) (by decide)) (own_ad24 hf h3 (n := 12) (by decide) (by decide))
                                  have hin88 : ¬ ((p1 + (12 : Int32)) < 0 ∨ cl88.slots.size ≤ ((p1 + (12 : Int32))).toNatClampNeg) := inb_of S88 ix88.1
                                  have hat88 : cl88.slots[((p1 + (12 : Int32))).toNatClampNeg]? = some (.int (wl (f + 12))) := by rw [ix88.2.1]; exact H88 _ ix88.2.2
                                  refine Runs.by (fun t hr => XJ74.baloadBytes hx (j := (p1 + (12 : Int32))) (v := (.int (wl (f + 12)))) (by rw [eJ74]; exact Ar88.1) (State.isArrayOf_alike hZ.alike Ar88.2.1) Ar88.2.2 hin88 hat88 (g := (mkF m 86 #[.val (.ref o0), .val (.int p1), .val (.int p2), .val (.int (own_mn p2 (p1 + (998 : Int32)))), .val (.int (p1 + (12 : Int32)))] [(.int (p1 + (12 : Int32))), (.ref o0)])) rfl rfl (hb hby d8_86) t hr) ?_
                                  refine Runs.by (fun _ hr => XS.bipush XJ74.here hx rfl (hb hby d8_87) hr) ?_
                                  by_cases ht1 : (wl (f + 12)) = (9 : Int32)
                                  · -- pc 89: (wl (f + 12)) = (9 : Int32)
                                    refine Runs.by (fun _ hr => XS.icmpNo XJ74.here hx rfl (hb hby d8_89) rfl (teq ht1).2 hr) ?_
                                    exact JB1  _ _ XJ74 eJ74 NJ74 (Or.inr ht1)
                                  · -- pc 89: not (wl (f + 12)) = (9 : Int32)
                                    refine Runs.by (fun _ hr => XS.icmpYes XJ74.here hx rfl (pc0 := 89) (pc' := 98) rfl (hb hby d8_89) rfl (feq ht1).2 (by decide) (by decide) hr) ?_
                                    show Runs p e below _ (TJ74.setTop (mkF m 98 #[.val (.ref o0), .val (.int p1), .val (.int p2), .val (.int (own_mn p2 (p1 + (998 : Int32)))), .val (.int (p1 + (12 : Int32)))] []))
                                    refine Runs.by (fun _ hr => XS.iload XJ74.here hx rfl (hb hby d8_98) rfl  hr) ?_
                                    refine Runs.by (fun _ hr => XS.iloadN XJ74.here hx rfl (hb hby d8_100) rfl  hr) ?_
                                    have hc101 : (p1 + (12 : Int32)) < (own_mn p2 (p1 + (998 : Int32))) := ha1
                                    refine Runs.by (fun _ hr => XS.icmpNo XJ74.here hx rfl (hb hby d8_101) rfl (tlt hc101).2.1 hr) ?_
                                    show Runs p e below _ (TJ74.setTop (mkF m 104 #[.val (.ref o0), .val (.int p1), .val (.int p2), .val (.int (own_mn p2 (p1 + (998 : Int32)))), .val (.int (p1 + (12 : Int32)))] []))
                                    refine Runs.by (fun _ hr => XS.aloadN XJ74.here hx rfl (hb hby d8_104) rfl rfl hr) ?_
                                    refine Runs.by (fun _ hr => XS.iload XJ74.here hx rfl (hb hby d8_105) rfl  hr) ?_
                                    show Runs p e below _ (TJ74.setTop (mkF m 107 #[.val (.ref o0), .val (.int p1), .val (.int p2), .val (.int (own_mn p2 (p1 + (998 : Int32)))), .val (.int (p1 + (12 : Int32)))] [(.int (p1 + (12 : Int32))), (.ref o0)]))
                                    obtain ⟨cl89, Ar89, -, S89, N89', H89⟩ := id GL
                                    have ix89 := own_ix (j := (p1 + (12 : Int32))) (z := (24 : Int32)) (n := f + 12) (own_ad hf h3 (n := 12) (by decide) (by decide)) (own_ad24 hf h3 (n := 12) (by decide) (by decide))
                                    have hin89 : ¬ ((p1 + (12 : Int32)) < 0 ∨ cl89.slots.size ≤ ((p1 + (12 : Int32))).toNatClampNeg) := inb_of S89 ix89.1
                                    have hat89 : cl89.slots[((p1 + (12 : Int32))).toNatClampNeg]? = some (.int (wl (f + 12))) := by rw [ix89.2.1]; exact H89 _ ix89.2.2
                                    refine Runs.by (fun t hr => XJ74.baloadBytes hx (j := (p1 + (12 : Int32))) (v := (.int (wl (f + 12)))) (by rw [eJ74]; exact Ar89.1) (State.isArrayOf_alike hZ.alike Ar89.2.1) Ar89.2.2 hin89 hat89 (g := (mkF m 107 #[.val (.ref o0), .val (.int p1), .val (.int p2), .val (.int (own_mn p2 (p1 + (998 : Int32)))), .val (.int (p1 + (12 : Int32)))] [(.int (p1 + (12 : Int32))), (.ref o0)])) rfl rfl (hb hby d8_107) t hr) ?_
                                    refine Runs.by (fun _ hr => XS.bipush XJ74.here hx rfl (hb hby d8_108) hr) ?_
                                    by_cases hk1 : (wl (f + 12)) = (58 : Int32)
                                    · -- pc 110: (wl (f + 12)) = (58 : Int32)
                                      refine Runs.by (fun _ hr => XS.icmpNo XJ74.here hx rfl (hb hby d8_110) rfl (teq hk1).2 hr) ?_
                                      show Runs p e below _ (TJ74.setTop (mkF m 113 #[.val (.ref o0), .val (.int p1), .val (.int p2), .val (.int (own_mn p2 (p1 + (998 : Int32)))), .val (.int (p1 + (12 : Int32)))] []))
                                      refine Runs.by (fun _ hr => XS.iconst XJ74.here hx rfl (hb hby d8_113) hr) ?_
                                      refine Runs.by (fun _ hr => XS.goto XJ74.here hx rfl (pc0 := 114) (pc' := 118) rfl (hb hby d8_114) (by decide) (by decide) hr) ?_
                                      show Runs p e below _ (TJ74.setTop (mkF m 118 #[.val (.ref o0), .val (.int p1), .val (.int p2), .val (.int (own_mn p2 (p1 + (998 : Int32)))), .val (.int (p1 + (12 : Int32)))] [(.int (1 : Int32))]))
                                      refine Runs.ret XJ74 hx hrt hlk (Or.inl ⟨rfl, by simp, _, rfl⟩) (by rfl) (hb hby d8_118) (by decide) (by decide) ?_
                                      rw [eJ74]
                                      exact ⟨congrArg (fun z => some (Value.int z)) (Eq.symm (by rw [own_bg, if_pos hc17, if_pos hn0, if_pos hn1, if_pos hn2, if_pos hn3, if_pos hn4, if_pos hn5, if_pos hn6, if_pos hn7, if_pos hn8, if_pos hn9, if_pos hn10, own_t0, own_tjw ha0 hw0, own_t1, own_tj1 ha1 hs1 ht1 hk1])), NJ74, rfl⟩
                                    · -- pc 110: not (wl (f + 12)) = (58 : Int32)
                                      refine Runs.by (fun _ hr => XS.icmpYes XJ74.here hx rfl (pc0 := 110) (pc' := 117) rfl (hb hby d8_110) rfl (feq hk1).2 (by decide) (by decide) hr) ?_
                                      show Runs p e below _ (TJ74.setTop (mkF m 117 #[.val (.ref o0), .val (.int p1), .val (.int p2), .val (.int (own_mn p2 (p1 + (998 : Int32)))), .val (.int (p1 + (12 : Int32)))] []))
                                      refine Runs.by (fun _ hr => XS.iconst XJ74.here hx rfl (hb hby d8_117) hr) ?_
                                      show Runs p e below _ (TJ74.setTop (mkF m 118 #[.val (.ref o0), .val (.int p1), .val (.int p2), .val (.int (own_mn p2 (p1 + (998 : Int32)))), .val (.int (p1 + (12 : Int32)))] [(.int (0 : Int32))]))
                                      refine Runs.ret XJ74 hx hrt hlk (Or.inl ⟨rfl, by simp, _, rfl⟩) (by rfl) (hb hby d8_118) (by decide) (by decide) ?_
                                      rw [eJ74]
                                      exact ⟨congrArg (fun z => some (Value.int z)) (Eq.symm (by rw [own_bg, if_pos hc17, if_pos hn0, if_pos hn1, if_pos hn2, if_pos hn3, if_pos hn4, if_pos hn5, if_pos hn6, if_pos hn7, if_pos hn8, if_pos hn9, if_pos hn10, own_t0, own_tjw ha0 hw0, own_t1, own_tj0 ha1 hs1 ht1 hk1])), NJ74, rfl⟩
                              · -- pc 71: not (p1 + (12 : Int32)) < (own_mn p2 (p1 + (998 : Int32)))
                                refine Runs.by (fun _ hr => XS.icmpYes XJ74.here hx rfl (pc0 := 71) (pc' := 98) rfl (hb hby d8_71) rfl (flt ha1).2.1 (by decide) (by decide) hr) ?_
                                refine Runs.by (fun _ hr => XS.iload XJ74.here hx rfl (hb hby d8_98) rfl  hr) ?_
                                show Runs p e below _ (TJ74.setTop (mkF m 100 #[.val (.ref o0), .val (.int p1), .val (.int p2), .val (.int (own_mn p2 (p1 + (998 : Int32)))), .val (.int (p1 + (12 : Int32)))] [(.int (p1 + (12 : Int32)))]))
                                refine Runs.by (fun _ hr => XS.iloadN XJ74.here hx rfl (hb hby d8_100) rfl  hr) ?_
                                have hc101 : ¬ ((p1 + (12 : Int32)) < (own_mn p2 (p1 + (998 : Int32)))) := ha1
                                refine Runs.by (fun _ hr => XS.icmpYes XJ74.here hx rfl (pc0 := 101) (pc' := 117) rfl (hb hby d8_101) rfl (flt hc101).2.1 (by decide) (by decide) hr) ?_
                                refine Runs.by (fun _ hr => XS.iconst XJ74.here hx rfl (hb hby d8_117) hr) ?_
                                show Runs p e below _ (TJ74.setTop (mkF m 118 #[.val (.ref o0), .val (.int p1), .val (.int p2), .val (.int (own_mn p2 (p1 + (998 : Int32)))), .val (.int (p1 + (12 : Int32)))] [(.int (0 : Int32))]))
                                refine Runs.ret XJ74 hx hrt hlk (Or.inl ⟨rfl, by simp, _, rfl⟩) (by rfl) (hb hby d8_118) (by decide) (by decide) ?_
                                rw [eJ74]
                                exact ⟨congrArg (fun z => some (Value.int z)) (Eq.symm (by rw [own_bg, if_pos hc17, if_pos hn0, if_pos hn1, if_pos hn2, if_pos hn3, if_pos hn4, if_pos hn5, if_pos hn6, if_pos hn7, if_pos hn8, if_pos hn9, if_pos hn10, own_t0, own_tjw ha0 hw0, own_t1, own_tjn ha1])), NJ74, rfl⟩
                            show Runs p e below _ (T72.setTop (mkF m 74 #[.val (.ref o0), .val (.int p1), .val (.int p2), .val (.int (own_mn p2 (p1 + (998 : Int32)))), .val (.int (p1 + (11 : Int32)))] []))
                            refine Runs.by (fun _ hr => XS.aloadN X72.here hx rfl (hb hby d8_74) rfl rfl hr) ?_
                            refine Runs.by (fun _ hr => XS.iload X72.here hx rfl (hb hby d8_75) rfl  hr) ?_
                            show Runs p e below _ (T72.setTop (mkF m 77 #[.val (.ref o0), .val (.int p1), .val (.int p2), .val (.int (own_mn p2 (p1 + (998 : Int32)))), .val (.int (p1 + (11 : Int32)))] [(.int (p1 + (11 : Int32))), (.ref o0)]))
                            obtain ⟨cl90, Ar90, -, S90, N90', H90⟩ := id GL
                            have ix90 := own_ix (j := (p1 + (11 : Int32))) (z := (24 : Int32)) (n := f + 11) (own_ad hf h3 (n := 11) (by decide) (by decide)) (own_ad24 hf h3 (n := 11) (by decide) (by decide))
                            have hin90 : ¬ ((p1 + (11 : Int32)) < 0 ∨ cl90.slots.size ≤ ((p1 + (11 : Int32))).toNatClampNeg) := inb_of S90 ix90.1
                            have hat90 : cl90.slots[((p1 + (11 : Int32))).toNatClampNeg]? = some (.int (wl (f + 11))) := by rw [ix90.2.1]; exact H90 _ ix90.2.2
                            refine Runs.by (fun t hr => X72.baloadBytes hx (j := (p1 + (11 : Int32))) (v := (.int (wl (f + 11)))) (by rw [e72]; exact Ar90.1) (State.isArrayOf_alike hZ.alike Ar90.2.1) Ar90.2.2 hin90 hat90 (g := (mkF m 77 #[.val (.ref o0), .val (.int p1), .val (.int p2), .val (.int (own_mn p2 (p1 + (998 : Int32)))), .val (.int (p1 + (11 : Int32)))] [(.int (p1 + (11 : Int32))), (.ref o0)])) rfl rfl (hb hby d8_77) t hr) ?_
                            refine Runs.by (fun _ hr => XS.bipush X72.here hx rfl (hb hby d8_78) hr) ?_
                            by_cases hs0 : (wl (f + 11)) = (32 : Int32)
                            · -- pc 80: (wl (f + 11)) = (32 : Int32)
                              refine Runs.by (fun _ hr => XS.icmpYes X72.here hx rfl (pc0 := 80) (pc' := 92) rfl (hb hby d8_80) rfl (teq hs0).1 (by decide) (by decide) hr) ?_
                              exact JB0  _ _ X72 e72 N67 (Or.inl hs0)
                            · -- pc 80: not (wl (f + 11)) = (32 : Int32)
                              refine Runs.by (fun _ hr => XS.icmpNo X72.here hx rfl (hb hby d8_80) rfl (feq hs0).1 hr) ?_
                              show Runs p e below _ (T72.setTop (mkF m 83 #[.val (.ref o0), .val (.int p1), .val (.int p2), .val (.int (own_mn p2 (p1 + (998 : Int32)))), .val (.int (p1 + (11 : Int32)))] []))
                              refine Runs.by (fun _ hr => XS.aloadN X72.here hx rfl (hb hby d8_83) rfl rfl hr) ?_
                              refine Runs.by (fun _ hr => XS.iload X72.here hx rfl (hb hby d8_84) rfl  hr) ?_
                              show Runs p e below _ (T72.setTop (mkF m 86 #[.val (.ref o0), .val (.int p1), .val (.int p2), .val (.int (own_mn p2 (p1 + (998 : Int32)))), .val (.int (p1 + (11 : Int32)))] [(.int (p1 + (11 : Int32))), (.ref o0)]))
                              obtain ⟨cl91, Ar91, -, S91, N91', H91⟩ := id GL
                              have ix91 := own_ix (j := (p1 + (11 : Int32))) (z := (24 : Int32)) (n := f + 11) (own_ad hf h3 (n := 11) (by decide) (by decide)) (own_ad24 hf h3 (n := 11) (by decide) (by decide))
                              have hin91 : ¬ ((p1 + (11 : Int32)) < 0 ∨ cl91.slots.size ≤ ((p1 + (11 : Int32))).toNatClampNeg) := inb_of S91 ix91.1
                              have hat91 : cl91.slots[((p1 + (11 : Int32))).toNatClampNeg]? = some (.int (wl (f + 11))) := by rw [ix91.2.1]; exact H91 _ ix91.2.2
                              refine Runs.by (fun t hr => X72.baloadBytes hx (j := (p1 + (11 : Int32))) (v := (.int (wl (f + 11)))) (by rw [e72]; exact Ar91.1) (State.isArrayOf_alike hZ.alike Ar91.2.1) Ar91.2.2 hin91 hat91 (g := (mkF m 86 #[.val (.ref o0), .val (.int p1), .val (.int p2), .val (.int (own_mn p2 (p1 + (998 : Int32)))), .val (.int (p1 + (11 : Int32)))] [(.int (p1 + (11 : Int32))), (.ref o0)])) rfl rfl (hb hby d8_86) t hr) ?_
                              refine Runs.by (fun _ hr => XS.bipush X72.here hx rfl (hb hby d8_87) hr) ?_
                              by_cases ht0 : (wl (f + 11)) = (9 : Int32)
                              · -- pc 89: (wl (f + 11)) = (9 : Int32)
                                refine Runs.by (fun _ hr => XS.icmpNo X72.here hx rfl (hb hby d8_89) rfl (teq ht0).2 hr) ?_
                                exact JB0  _ _ X72 e72 N67 (Or.inr ht0)
                              · -- pc 89: not (wl (f + 11)) = (9 : Int32)
                                refine Runs.by (fun _ hr => XS.icmpYes X72.here hx rfl (pc0 := 89) (pc' := 98) rfl (hb hby d8_89) rfl (feq ht0).2 (by decide) (by decide) hr) ?_
                                show Runs p e below _ (T72.setTop (mkF m 98 #[.val (.ref o0), .val (.int p1), .val (.int p2), .val (.int (own_mn p2 (p1 + (998 : Int32)))), .val (.int (p1 + (11 : Int32)))] []))
                                refine Runs.by (fun _ hr => XS.iload X72.here hx rfl (hb hby d8_98) rfl  hr) ?_
                                refine Runs.by (fun _ hr => XS.iloadN X72.here hx rfl (hb hby d8_100) rfl  hr) ?_
                                have hc101 : (p1 + (11 : Int32)) < (own_mn p2 (p1 + (998 : Int32))) := ha0
                                refine Runs.by (fun _ hr => XS.icmpNo X72.here hx rfl (hb hby d8_101) rfl (tlt hc101).2.1 hr) ?_
                                show Runs p e below _ (T72.setTop (mkF m 104 #[.val (.ref o0), .val (.int p1), .val (.int p2), .val (.int (own_mn p2 (p1 + (998 : Int32)))), .val (.int (p1 + (11 : Int32)))] []))
                                refine Runs.by (fun _ hr => XS.aloadN X72.here hx rfl (hb hby d8_104) rfl rfl hr) ?_
                                refine Runs.by (fun _ hr => XS.iload X72.here hx rfl (hb hby d8_105) rfl  hr) ?_
                                show Runs p e below _ (T72.setTop (mkF m 107 #[.val (.ref o0), .val (.int p1), .val (.int p2), .val (.int (own_mn p2 (p1 + (998 : Int32)))), .val (.int (p1 + (11 : Int32)))] [(.int (p1 + (11 : Int32))), (.ref o0)]))
                                obtain ⟨cl92, Ar92, -, S92, N92', H92⟩ := id GL
                                have ix92 := own_ix (j := (p1 + (11 : Int32))) (z := (24 : Int32)) (n := f + 11) (own_ad hf h3 (n := 11) (by decide) (by decide)) (own_ad24 hf h3 (n := 11) (by decide) (by decide))
                                have hin92 : ¬ ((p1 + (11 : Int32)) < 0 ∨ cl92.slots.size ≤ ((p1 + (11 : Int32))).toNatClampNeg) := inb_of S92 ix92.1
                                have hat92 : cl92.slots[((p1 + (11 : Int32))).toNatClampNeg]? = some (.int (wl (f + 11))) := by rw [ix92.2.1]; exact H92 _ ix92.2.2
                                refine Runs.by (fun t hr => X72.baloadBytes hx (j := (p1 + (11 : Int32))) (v := (.int (wl (f + 11)))) (by rw [e72]; exact Ar92.1) (State.isArrayOf_alike hZ.alike Ar92.2.1) Ar92.2.2 hin92 hat92 (g := (mkF m 107 #[.val (.ref o0), .val (.int p1), .val (.int p2), .val (.int (own_mn p2 (p1 + (998 : Int32)))), .val (.int (p1 + (11 : Int32)))] [(.int (p1 + (11 : Int32))), (.ref o0)])) rfl rfl (hb hby d8_107) t hr) ?_
                                refine Runs.by (fun _ hr => XS.bipush X72.here hx rfl (hb hby d8_108) hr) ?_
                                by_cases hk0 : (wl (f + 11)) = (58 : Int32)
                                · -- pc 110: (wl (f + 11)) = (58 : Int32)
                                  refine Runs.by (fun _ hr => XS.icmpNo X72.here hx rfl (hb hby d8_110) rfl (teq hk0).2 hr) ?_
                                  show Runs p e below _ (T72.setTop (mkF m 113 #[.val (.ref o0), .val (.int p1), .val (.int p2), .val (.int (own_mn p2 (p1 + (998 : Int32)))), .val (.int (p1 + (11 : Int32)))] []))
                                  refine Runs.by (fun _ hr => XS.iconst X72.here hx rfl (hb hby d8_113) hr) ?_
                                  refine Runs.by (fun _ hr => XS.goto X72.here hx rfl (pc0 := 114) (pc' := 118) rfl (hb hby d8_114) (by decide) (by decide) hr) ?_
                                  show Runs p e below _ (T72.setTop (mkF m 118 #[.val (.ref o0), .val (.int p1), .val (.int p2), .val (.int (own_mn p2 (p1 + (998 : Int32)))), .val (.int (p1 + (11 : Int32)))] [(.int (1 : Int32))]))
                                  refine Runs.ret X72 hx hrt hlk (Or.inl ⟨rfl, by simp, _, rfl⟩) (by rfl) (hb hby d8_118) (by decide) (by decide) ?_
                                  rw [e72]
                                  exact ⟨congrArg (fun z => some (Value.int z)) (Eq.symm (by rw [own_bg, if_pos hc17, if_pos hn0, if_pos hn1, if_pos hn2, if_pos hn3, if_pos hn4, if_pos hn5, if_pos hn6, if_pos hn7, if_pos hn8, if_pos hn9, if_pos hn10, own_t0, own_tj1 ha0 hs0 ht0 hk0])), N67, rfl⟩
                                · -- pc 110: not (wl (f + 11)) = (58 : Int32)
                                  refine Runs.by (fun _ hr => XS.icmpYes X72.here hx rfl (pc0 := 110) (pc' := 117) rfl (hb hby d8_110) rfl (feq hk0).2 (by decide) (by decide) hr) ?_
                                  show Runs p e below _ (T72.setTop (mkF m 117 #[.val (.ref o0), .val (.int p1), .val (.int p2), .val (.int (own_mn p2 (p1 + (998 : Int32)))), .val (.int (p1 + (11 : Int32)))] []))
                                  refine Runs.by (fun _ hr => XS.iconst X72.here hx rfl (hb hby d8_117) hr) ?_
                                  show Runs p e below _ (T72.setTop (mkF m 118 #[.val (.ref o0), .val (.int p1), .val (.int p2), .val (.int (own_mn p2 (p1 + (998 : Int32)))), .val (.int (p1 + (11 : Int32)))] [(.int (0 : Int32))]))
                                  refine Runs.ret X72 hx hrt hlk (Or.inl ⟨rfl, by simp, _, rfl⟩) (by rfl) (hb hby d8_118) (by decide) (by decide) ?_
                                  rw [e72]
                                  exact ⟨congrArg (fun z => some (Value.int z)) (Eq.symm (by rw [own_bg, if_pos hc17, if_pos hn0, if_pos hn1, if_pos hn2, if_pos hn3, if_pos hn4, if_pos hn5, if_pos hn6, if_pos hn7, if_pos hn8, if_pos hn9, if_pos hn10, own_t0, own_tj0 ha0 hs0 ht0 hk0])), N67, rfl⟩
                          · -- pc 71: not (p1 + (11 : Int32)) < (own_mn p2 (p1 + (998 : Int32)))
                            refine Runs.by (fun _ hr => XS.icmpYes X72.here hx rfl (pc0 := 71) (pc' := 98) rfl (hb hby d8_71) rfl (flt ha0).2.1 (by decide) (by decide) hr) ?_
                            show Runs p e below _ (T72.setTop (mkF m 98 #[.val (.ref o0), .val (.int p1), .val (.int p2), .val (.int (own_mn p2 (p1 + (998 : Int32)))), .val (.int (p1 + (11 : Int32)))] []))
                            refine Runs.by (fun _ hr => XS.iload X72.here hx rfl (hb hby d8_98) rfl  hr) ?_
                            refine Runs.by (fun _ hr => XS.iloadN X72.here hx rfl (hb hby d8_100) rfl  hr) ?_
                            have hc101 : ¬ ((p1 + (11 : Int32)) < (own_mn p2 (p1 + (998 : Int32)))) := ha0
                            refine Runs.by (fun _ hr => XS.icmpYes X72.here hx rfl (pc0 := 101) (pc' := 117) rfl (hb hby d8_101) rfl (flt hc101).2.1 (by decide) (by decide) hr) ?_
                            show Runs p e below _ (T72.setTop (mkF m 117 #[.val (.ref o0), .val (.int p1), .val (.int p2), .val (.int (own_mn p2 (p1 + (998 : Int32)))), .val (.int (p1 + (11 : Int32)))] []))
                            refine Runs.by (fun _ hr => XS.iconst X72.here hx rfl (hb hby d8_117) hr) ?_
                            show Runs p e below _ (T72.setTop (mkF m 118 #[.val (.ref o0), .val (.int p1), .val (.int p2), .val (.int (own_mn p2 (p1 + (998 : Int32)))), .val (.int (p1 + (11 : Int32)))] [(.int (0 : Int32))]))
                            refine Runs.ret X72 hx hrt hlk (Or.inl ⟨rfl, by simp, _, rfl⟩) (by rfl) (hb hby d8_118) (by decide) (by decide) ?_
                            rw [e72]
                            exact ⟨congrArg (fun z => some (Value.int z)) (Eq.symm (by rw [own_bg, if_pos hc17, if_pos hn0, if_pos hn1, if_pos hn2, if_pos hn3, if_pos hn4, if_pos hn5, if_pos hn6, if_pos hn7, if_pos hn8, if_pos hn9, if_pos hn10, own_t0, own_tjn ha0])), N67, rfl⟩
                        · -- pc 49: not (own_lc (wl (f + 10))) = (115 : Int32)
                          refine Runs.by (fun _ hr => XS.icmpNo X68.here hx rfl (hb hby d8_49) rfl (feq hn10).1 hr) ?_
                          refine Runs.by (fun _ hr => XS.iconst X68.here hx rfl (hb hby d8_52) hr) ?_
                          show Runs p e below _ (T68.setTop (mkF m 53 #[.val (.ref o0), .val (.int p1), .val (.int p2), .val (.int (own_mn p2 (p1 + (998 : Int32)))), .val (.int (10 : Int32))] [(.int (0 : Int32))]))
                          refine Runs.ret X68 hx hrt hlk (Or.inl ⟨rfl, by simp, _, rfl⟩) (by rfl) (hb hby d8_53) (by decide) (by decide) ?_
                          rw [e68]
                          exact ⟨congrArg (fun z => some (Value.int z)) (Eq.symm (by rw [own_bg, if_pos hc17, if_pos hn0, if_pos hn1, if_pos hn2, if_pos hn3, if_pos hn4, if_pos hn5, if_pos hn6, if_pos hn7, if_pos hn8, if_pos hn9, if_neg hn10])), N67, rfl⟩
                      · -- pc 49: not (own_lc (wl (f + 9))) = (100 : Int32)
                        refine Runs.by (fun _ hr => XS.icmpNo X62.here hx rfl (hb hby d8_49) rfl (feq hn9).1 hr) ?_
                        refine Runs.by (fun _ hr => XS.iconst X62.here hx rfl (hb hby d8_52) hr) ?_
                        show Runs p e below _ (T62.setTop (mkF m 53 #[.val (.ref o0), .val (.int p1), .val (.int p2), .val (.int (own_mn p2 (p1 + (998 : Int32)))), .val (.int (9 : Int32))] [(.int (0 : Int32))]))
                        refine Runs.ret X62 hx hrt hlk (Or.inl ⟨rfl, by simp, _, rfl⟩) (by rfl) (hb hby d8_53) (by decide) (by decide) ?_
                        rw [e62]
                        exact ⟨congrArg (fun z => some (Value.int z)) (Eq.symm (by rw [own_bg, if_pos hc17, if_pos hn0, if_pos hn1, if_pos hn2, if_pos hn3, if_pos hn4, if_pos hn5, if_pos hn6, if_pos hn7, if_pos hn8, if_neg hn9])), N61, rfl⟩
                    · -- pc 49: not (own_lc (wl (f + 8))) = (100 : Int32)
                      refine Runs.by (fun _ hr => XS.icmpNo X56.here hx rfl (hb hby d8_49) rfl (feq hn8).1 hr) ?_
                      refine Runs.by (fun _ hr => XS.iconst X56.here hx rfl (hb hby d8_52) hr) ?_
                      show Runs p e below _ (T56.setTop (mkF m 53 #[.val (.ref o0), .val (.int p1), .val (.int p2), .val (.int (own_mn p2 (p1 + (998 : Int32)))), .val (.int (8 : Int32))] [(.int (0 : Int32))]))
                      refine Runs.ret X56 hx hrt hlk (Or.inl ⟨rfl, by simp, _, rfl⟩) (by rfl) (hb hby d8_53) (by decide) (by decide) ?_
                      rw [e56]
                      exact ⟨congrArg (fun z => some (Value.int z)) (Eq.symm (by rw [own_bg, if_pos hc17, if_pos hn0, if_pos hn1, if_pos hn2, if_pos hn3, if_pos hn4, if_pos hn5, if_pos hn6, if_pos hn7, if_neg hn8])), N55, rfl⟩
                  · -- pc 49: not (own_lc (wl (f + 7))) = (111 : Int32)
                    refine Runs.by (fun _ hr => XS.icmpNo X50.here hx rfl (hb hby d8_49) rfl (feq hn7).1 hr) ?_
                    refine Runs.by (fun _ hr => XS.iconst X50.here hx rfl (hb hby d8_52) hr) ?_
                    show Runs p e below _ (T50.setTop (mkF m 53 #[.val (.ref o0), .val (.int p1), .val (.int p2), .val (.int (own_mn p2 (p1 + (998 : Int32)))), .val (.int (7 : Int32))] [(.int (0 : Int32))]))
                    refine Runs.ret X50 hx hrt hlk (Or.inl ⟨rfl, by simp, _, rfl⟩) (by rfl) (hb hby d8_53) (by decide) (by decide) ?_
                    rw [e50]
                    exact ⟨congrArg (fun z => some (Value.int z)) (Eq.symm (by rw [own_bg, if_pos hc17, if_pos hn0, if_pos hn1, if_pos hn2, if_pos hn3, if_pos hn4, if_pos hn5, if_pos hn6, if_neg hn7])), N49, rfl⟩
                · -- pc 49: not (own_lc (wl (f + 6))) = (45 : Int32)
                  refine Runs.by (fun _ hr => XS.icmpNo X44.here hx rfl (hb hby d8_49) rfl (feq hn6).1 hr) ?_
                  refine Runs.by (fun _ hr => XS.iconst X44.here hx rfl (hb hby d8_52) hr) ?_
                  show Runs p e below _ (T44.setTop (mkF m 53 #[.val (.ref o0), .val (.int p1), .val (.int p2), .val (.int (own_mn p2 (p1 + (998 : Int32)))), .val (.int (6 : Int32))] [(.int (0 : Int32))]))
                  refine Runs.ret X44 hx hrt hlk (Or.inl ⟨rfl, by simp, _, rfl⟩) (by rfl) (hb hby d8_53) (by decide) (by decide) ?_
                  rw [e44]
                  exact ⟨congrArg (fun z => some (Value.int z)) (Eq.symm (by rw [own_bg, if_pos hc17, if_pos hn0, if_pos hn1, if_pos hn2, if_pos hn3, if_pos hn4, if_pos hn5, if_neg hn6])), N43, rfl⟩
              · -- pc 49: not (own_lc (wl (f + 5))) = (100 : Int32)
                refine Runs.by (fun _ hr => XS.icmpNo X38.here hx rfl (hb hby d8_49) rfl (feq hn5).1 hr) ?_
                refine Runs.by (fun _ hr => XS.iconst X38.here hx rfl (hb hby d8_52) hr) ?_
                show Runs p e below _ (T38.setTop (mkF m 53 #[.val (.ref o0), .val (.int p1), .val (.int p2), .val (.int (own_mn p2 (p1 + (998 : Int32)))), .val (.int (5 : Int32))] [(.int (0 : Int32))]))
                refine Runs.ret X38 hx hrt hlk (Or.inl ⟨rfl, by simp, _, rfl⟩) (by rfl) (hb hby d8_53) (by decide) (by decide) ?_
                rw [e38]
                exact ⟨congrArg (fun z => some (Value.int z)) (Eq.symm (by rw [own_bg, if_pos hc17, if_pos hn0, if_pos hn1, if_pos hn2, if_pos hn3, if_pos hn4, if_neg hn5])), N37, rfl⟩
            · -- pc 49: not (own_lc (wl (f + 4))) = (114 : Int32)
              refine Runs.by (fun _ hr => XS.icmpNo X32.here hx rfl (hb hby d8_49) rfl (feq hn4).1 hr) ?_
              refine Runs.by (fun _ hr => XS.iconst X32.here hx rfl (hb hby d8_52) hr) ?_
              show Runs p e below _ (T32.setTop (mkF m 53 #[.val (.ref o0), .val (.int p1), .val (.int p2), .val (.int (own_mn p2 (p1 + (998 : Int32)))), .val (.int (4 : Int32))] [(.int (0 : Int32))]))
              refine Runs.ret X32 hx hrt hlk (Or.inl ⟨rfl, by simp, _, rfl⟩) (by rfl) (hb hby d8_53) (by decide) (by decide) ?_
              rw [e32]
              exact ⟨congrArg (fun z => some (Value.int z)) (Eq.symm (by rw [own_bg, if_pos hc17, if_pos hn0, if_pos hn1, if_pos hn2, if_pos hn3, if_neg hn4])), N31, rfl⟩
          · -- pc 49: not (own_lc (wl (f + 3))) = (111 : Int32)
            refine Runs.by (fun _ hr => XS.icmpNo X26.here hx rfl (hb hby d8_49) rfl (feq hn3).1 hr) ?_
            refine Runs.by (fun _ hr => XS.iconst X26.here hx rfl (hb hby d8_52) hr) ?_
            show Runs p e below _ (T26.setTop (mkF m 53 #[.val (.ref o0), .val (.int p1), .val (.int p2), .val (.int (own_mn p2 (p1 + (998 : Int32)))), .val (.int (3 : Int32))] [(.int (0 : Int32))]))
            refine Runs.ret X26 hx hrt hlk (Or.inl ⟨rfl, by simp, _, rfl⟩) (by rfl) (hb hby d8_53) (by decide) (by decide) ?_
            rw [e26]
            exact ⟨congrArg (fun z => some (Value.int z)) (Eq.symm (by rw [own_bg, if_pos hc17, if_pos hn0, if_pos hn1, if_pos hn2, if_neg hn3])), N25, rfl⟩
        · -- pc 49: not (own_lc (wl (f + 2))) = (119 : Int32)
          refine Runs.by (fun _ hr => XS.icmpNo X20.here hx rfl (hb hby d8_49) rfl (feq hn2).1 hr) ?_
          refine Runs.by (fun _ hr => XS.iconst X20.here hx rfl (hb hby d8_52) hr) ?_
          show Runs p e below _ (T20.setTop (mkF m 53 #[.val (.ref o0), .val (.int p1), .val (.int p2), .val (.int (own_mn p2 (p1 + (998 : Int32)))), .val (.int (2 : Int32))] [(.int (0 : Int32))]))
          refine Runs.ret X20 hx hrt hlk (Or.inl ⟨rfl, by simp, _, rfl⟩) (by rfl) (hb hby d8_53) (by decide) (by decide) ?_
          rw [e20]
          exact ⟨congrArg (fun z => some (Value.int z)) (Eq.symm (by rw [own_bg, if_pos hc17, if_pos hn0, if_pos hn1, if_neg hn2])), N19, rfl⟩
      · -- pc 49: not (own_lc (wl (f + 1))) = (45 : Int32)
        refine Runs.by (fun _ hr => XS.icmpNo X14.here hx rfl (hb hby d8_49) rfl (feq hn1).1 hr) ?_
        refine Runs.by (fun _ hr => XS.iconst X14.here hx rfl (hb hby d8_52) hr) ?_
        show Runs p e below _ (T14.setTop (mkF m 53 #[.val (.ref o0), .val (.int p1), .val (.int p2), .val (.int (own_mn p2 (p1 + (998 : Int32)))), .val (.int (1 : Int32))] [(.int (0 : Int32))]))
        refine Runs.ret X14 hx hrt hlk (Or.inl ⟨rfl, by simp, _, rfl⟩) (by rfl) (hb hby d8_53) (by decide) (by decide) ?_
        rw [e14]
        exact ⟨congrArg (fun z => some (Value.int z)) (Eq.symm (by rw [own_bg, if_pos hc17, if_pos hn0, if_neg hn1])), N13, rfl⟩
    · -- pc 49: not (own_lc (wl (f + 0))) = (120 : Int32)
      refine Runs.by (fun _ hr => XS.icmpNo X8.here hx rfl (hb hby d8_49) rfl (feq hn0).1 hr) ?_
      refine Runs.by (fun _ hr => XS.iconst X8.here hx rfl (hb hby d8_52) hr) ?_
      show Runs p e below _ (T8.setTop (mkF m 53 #[.val (.ref o0), .val (.int p1), .val (.int p2), .val (.int (own_mn p2 (p1 + (998 : Int32)))), .val (.int (0 : Int32))] [(.int (0 : Int32))]))
      refine Runs.ret X8 hx hrt hlk (Or.inl ⟨rfl, by simp, _, rfl⟩) (by rfl) (hb hby d8_53) (by decide) (by decide) ?_
      rw [e8]
      exact ⟨congrArg (fun z => some (Value.int z)) (Eq.symm (by rw [own_bg, if_pos hc17, if_neg hn0])), N7, rfl⟩
  · -- pc 17: not (11 : Int32) < ((own_mn p2 (p1 + (998 : Int32))) - p1)
    refine Runs.by (fun _ hr => XS.icmpNo X2.here hx rfl (hb hby d8_17) rfl (flt hc17).2.2.1 hr) ?_
    refine Runs.by (fun _ hr => XS.iconst X2.here hx rfl (hb hby d8_20) hr) ?_
    show Runs p e below _ (T2.setTop (mkF m 21 #[.val (.ref o0), .val (.int p1), .val (.int p2), .val (.int (own_mn p2 (p1 + (998 : Int32)))), .unset] [(.int (0 : Int32))]))
    refine Runs.ret X2 hx hrt hlk (Or.inl ⟨rfl, by simp, _, rfl⟩) (by rfl) (hb hby d8_21) (by decide) (by decide) ?_
    rw [e2]
    exact ⟨congrArg (fun z => some (Value.int z)) (Eq.symm (by rw [own_bg, if_neg hc17])), N1, rfl⟩
theorem own_eq_int {t : Term} {n : Int32} {args : Array Value} {s : State} (h : (Cond.eq t (.int n)).value args s none s [] = some true) : t.eval args s none [] s = some (.int n) := by
  obtain ⟨x, y, h1, h2, h3, h4⟩ := cmp_v (Or.inl h)
  have e2 : y = .int n := (Option.some.inj (h2.symm.trans (Term.int_eval n)))
  subst e2
  obtain ⟨z, rfl⟩ := h4
  simp [Cond.value, h1, h2] at h
  rw [h1, h]
theorem own_len {t : Term} {n : Int32} {args : Array Value} {s : State} {a : Addr} {cl : Cell} (h : (Term.length t).eval args s none [] s = some (.int n)) (ht : t.eval args s none [] s = some (.ref a)) (hc : s.heap[a]? = some cl) : cl.slots.size < 2 ^ 31 ∧ cl.slots.size.toInt32 = n := by
  simp only [Term.eval, Option.bind_eq_bind, ht, Option.bind_some] at h
  obtain ⟨cell, hcell, h⟩ := Option.bind_eq_some_iff.mp h
  cases hc.symm.trans (State.arrayAt?_spec hcell).1
  by_cases hn : cl.slots.size < 2147483648
  · rw [if_pos hn] at h; cases h; exact ⟨hn, rfl⟩
  · rw [if_neg hn] at h; cases h
theorem own_arv {t : Term} {z : Int32} {args : Array Value} {s : State} {a : Addr} {vs : List Value} {dv : Value} (hf : Fit s) (ev : t.eval args s none [] s = some (.ref a)) (ha : (Cond.arrayOf t .byte).value args s none s [] = some true) (hl : (Cond.eq (Term.length t) (.int z)).value args s none s [] = some true) (hz : ¬ z < 0) (hv : z.toNatClampNeg = vs.length) (hel : ∀ cl : Cell, s.heap[a]? = some cl → HasL cl 0 vs) : ∃ k, Arv s s.heap a k .byte z vs dv := by
  obtain ⟨cl, A⟩ := Arr.start ev ha
  obtain ⟨q1, q2⟩ := own_len (own_eq_int hl) ev A.1
  exact ⟨_, Arv.start hf A q1 q2 hz hv (hel cl A.1)⟩
def own_inv (Z : State) (vm : Vm) (h : Heap) (ln : Addr) (c n : Nat) : Prop :=
  (c = 1 ∧ n = 24) ∨ (c = 3 ∧ n = 72 ∧ own_LS Z vm h ln "com/example/word_odds/wordodds/filter/VerdictFieldBeginsPinLaw" 24 (11 : Int32) [(.int (120 : Int32)), (.int (45 : Int32)), (.int (119 : Int32)), (.int (111 : Int32)), (.int (114 : Int32)), (.int (100 : Int32)), (.int (45 : Int32)), (.int (111 : Int32)), (.int (100 : Int32)), (.int (100 : Int32)), (.int (115 : Int32))]) ∨ (c = 3 ∧ n = 72 ∧ own_LS Z vm h ln "com/example/word_odds/wordodds/filter/VerdictFieldBeginsPinLaw" 32 (11 : Int32) [(.int (88 : Int32)), (.int (45 : Int32)), (.int (87 : Int32)), (.int (79 : Int32)), (.int (82 : Int32)), (.int (68 : Int32)), (.int (45 : Int32)), (.int (79 : Int32)), (.int (68 : Int32)), (.int (68 : Int32)), (.int (83 : Int32))]) ∨ (c = 5 ∧ n = 120 ∧ own_LS Z vm h ln "com/example/word_odds/wordodds/filter/VerdictFieldBeginsPinLaw" 24 (11 : Int32) [(.int (120 : Int32)), (.int (45 : Int32)), (.int (119 : Int32)), (.int (111 : Int32)), (.int (114 : Int32)), (.int (100 : Int32)), (.int (45 : Int32)), (.int (111 : Int32)), (.int (100 : Int32)), (.int (100 : Int32)), (.int (115 : Int32))] ∧ own_LS Z vm h ln "com/example/word_odds/wordodds/filter/VerdictFieldBeginsPinLaw" 32 (11 : Int32) [(.int (88 : Int32)), (.int (45 : Int32)), (.int (87 : Int32)), (.int (79 : Int32)), (.int (82 : Int32)), (.int (68 : Int32)), (.int (45 : Int32)), (.int (79 : Int32)), (.int (68 : Int32)), (.int (68 : Int32)), (.int (83 : Int32))])
theorem own_inv.wr {Z : State} {vm : Vm} {h h' : Heap} {ln : Addr} {c n sl : Nat} {v : Value} (F : own_inv Z vm h ln c n) (W : Wr h h' ln sl v) : own_inv Z vm h' ln c n := by
  rcases F with q | ⟨q1, q2, q3⟩ | ⟨q1, q2, q3⟩ | ⟨q1, q2, q3, q4⟩
  · exact Or.inl q
  · exact Or.inr (Or.inl ⟨q1, q2, q3.wr W⟩)
  · exact Or.inr (Or.inr (Or.inl ⟨q1, q2, q3.wr W⟩))
  · exact Or.inr (Or.inr (Or.inr ⟨q1, q2, q3.wr W, q4.wr W⟩))
theorem own_inv.le {Z : State} {vm : Vm} {h : Heap} {ln : Addr} {c n : Nat} (F : own_inv Z vm h ln c n) : c ≤ 5 ∧ n ≤ 120 := by
  rcases F with q | q | q | q <;> omega
theorem own_lineA {f : Nat} {z0 z1 z2 z3 nb0 nb1 nb2 nb3 nb4 nb5 nb6 nb7 nb8 nb9 nb10 : Int32} {wl wl10 : Nat → Int32} (hwl10 : wl10 = (own_up (own_up (own_up (own_up (own_up (own_up (own_up (own_up (own_up (own_up (fun _ => (0 : Int32)) (f + 0) (nar .byte nb0)) (f + 1) (nar .byte nb1)) (f + 2) (nar .byte nb2)) (f + 3) (nar .byte nb3)) (f + 4) (nar .byte nb4)) (f + 5) (nar .byte nb5)) (f + 6) (nar .byte nb6)) (f + 7) (nar .byte nb7)) (f + 8) (nar .byte nb8)) (f + 9) (nar .byte nb9))) (hwl : wl = (own_up (own_up (own_up (own_up (own_up wl10 (f + 10) (nar .byte nb10)) (f + 11) (nar .byte z0)) (f + 12) (nar .byte z1)) (f + 13) (nar .byte z2)) (f + 14) (nar .byte z3))) (hz0 : z0.toInt8.toInt32 = z0) (hz1 : z1.toInt8.toInt32 = z1) (hz2 : z2.toInt8.toInt32 = z2) (hz3 : z3.toInt8.toInt32 = z3) :
    (∀ j, (wl j).toInt8.toInt32 = wl j) ∧ wl (f + 11) = z0 ∧ wl (f + 12) = z1 ∧ wl (f + 13) = z2 ∧ wl (f + 14) = z3 ∧ wl (f + 15) = 0 ∧ wl (f + 0) = nar .byte nb0 ∧ wl (f + 1) = nar .byte nb1 ∧ wl (f + 2) = nar .byte nb2 ∧ wl (f + 3) = nar .byte nb3 ∧ wl (f + 4) = nar .byte nb4 ∧ wl (f + 5) = nar .byte nb5 ∧ wl (f + 6) = nar .byte nb6 ∧ wl (f + 7) = nar .byte nb7 ∧ wl (f + 8) = nar .byte nb8 ∧ wl (f + 9) = nar .byte nb9 ∧ wl (f + 10) = nar .byte nb10 := by
  subst hwl10; subst hwl
  refine ⟨own_upb (own_upb (own_upb (own_upb (own_upb (own_upb (own_upb (own_upb (own_upb (own_upb (own_upb (own_upb (own_upb (own_upb (own_upb ((fun _ => by decide)))))))))))))))), by simp only [own_upf]; simp only [Nat.reduceEqDiff, if_false, if_true, reduceIte]; exact hz0, by simp only [own_upf]; simp only [Nat.reduceEqDiff, if_false, if_true, reduceIte]; exact hz1, by simp only [own_upf]; simp only [Nat.reduceEqDiff, if_false, if_true, reduceIte]; exact hz2, by simp only [own_upf]; simp only [Nat.reduceEqDiff, if_false, if_true, reduceIte]; exact hz3, by simp only [own_upf]; simp, by simp only [own_upf]; simp, by simp only [own_upf]; simp, by simp only [own_upf]; simp, by simp only [own_upf]; simp, by simp only [own_upf]; simp, by simp only [own_upf]; simp, by simp only [own_upf]; simp, by simp only [own_upf]; simp, by simp only [own_upf]; simp, by simp only [own_upf]; simp, by simp only [own_upf]; simp⟩
theorem own_lineB {f m : Nat} {b z0 z1 z2 z3 nb0 nb1 nb2 nb3 nb4 nb5 nb6 nb7 nb8 nb9 nb10 : Int32} {wl wl10 : Nat → Int32} (hm : m < 11) (hwl10 : wl10 = (own_up (own_up (own_up (own_up (own_up (own_up (own_up (own_up (own_up (own_up (fun _ => (0 : Int32)) (f + 0) (nar .byte nb0)) (f + 1) (nar .byte nb1)) (f + 2) (nar .byte nb2)) (f + 3) (nar .byte nb3)) (f + 4) (nar .byte nb4)) (f + 5) (nar .byte nb5)) (f + 6) (nar .byte nb6)) (f + 7) (nar .byte nb7)) (f + 8) (nar .byte nb8)) (f + 9) (nar .byte nb9))) (hwl : wl = (own_up (own_up (own_up (own_up (own_up (own_up wl10 (f + 10) (nar .byte nb10)) (f + m) (nar .byte b)) (f + 11) (nar .byte z0)) (f + 12) (nar .byte z1)) (f + 13) (nar .byte z2)) (f + 14) (nar .byte z3))) (hz0 : z0.toInt8.toInt32 = z0) (hz1 : z1.toInt8.toInt32 = z1) (hz2 : z2.toInt8.toInt32 = z2) (hz3 : z3.toInt8.toInt32 = z3) :
    (∀ j, (wl j).toInt8.toInt32 = wl j) ∧ wl (f + 11) = z0 ∧ wl (f + 12) = z1 ∧ wl (f + 13) = z2 ∧ wl (f + 14) = z3 ∧ wl (f + 15) = 0 ∧ wl (f + m) = nar .byte b ∧ wl (f + 0) = (if 0 = m then nar .byte b else nar .byte nb0) ∧ wl (f + 1) = (if 1 = m then nar .byte b else nar .byte nb1) ∧ wl (f + 2) = (if 2 = m then nar .byte b else nar .byte nb2) ∧ wl (f + 3) = (if 3 = m then nar .byte b else nar .byte nb3) ∧ wl (f + 4) = (if 4 = m then nar .byte b else nar .byte nb4) ∧ wl (f + 5) = (if 5 = m then nar .byte b else nar .byte nb5) ∧ wl (f + 6) = (if 6 = m then nar .byte b else nar .byte nb6) ∧ wl (f + 7) = (if 7 = m then nar .byte b else nar .byte nb7) ∧ wl (f + 8) = (if 8 = m then nar .byte b else nar .byte nb8) ∧ wl (f + 9) = (if 9 = m then nar .byte b else nar .byte nb9) ∧ wl (f + 10) = (if 10 = m then nar .byte b else nar .byte nb10) := by
  subst hwl10; subst hwl
  have m11 : ¬ 11 = m := by omega
  have k11 : ¬ m = 11 := by omega
  have m12 : ¬ 12 = m := by omega
  have k12 : ¬ m = 12 := by omega
  have m13 : ¬ 13 = m := by omega
  have k13 : ¬ m = 13 := by omega
  have m14 : ¬ 14 = m := by omega
  have k14 : ¬ m = 14 := by omega
  have m15 : ¬ 15 = m := by omega
  have k15 : ¬ m = 15 := by omega
  refine ⟨own_upb (own_upb (own_upb (own_upb (own_upb (own_upb (own_upb (own_upb (own_upb (own_upb (own_upb (own_upb (own_upb (own_upb (own_upb (own_upb ((fun _ => by decide))))))))))))))))), by simp only [own_upf]; simp only [Nat.reduceEqDiff, if_false, if_true, m11, reduceIte]; exact hz0, by simp only [own_upf]; simp only [Nat.reduceEqDiff, if_false, if_true, m12, reduceIte]; exact hz1, by simp only [own_upf]; simp only [Nat.reduceEqDiff, if_false, if_true, m13, reduceIte]; exact hz2, by simp only [own_upf]; simp only [Nat.reduceEqDiff, if_false, if_true, m14, reduceIte]; exact hz3, by simp only [own_upf]; simp [m15], by simp only [own_upf]; simp [k11, k12, k13, k14], by simp only [own_upf]; simp, by simp only [own_upf]; simp, by simp only [own_upf]; simp, by simp only [own_upf]; simp, by simp only [own_upf]; simp, by simp only [own_upf]; simp, by simp only [own_upf]; simp, by simp only [own_upf]; simp, by simp only [own_upf]; simp, by simp only [own_upf]; simp, by simp only [own_upf]; simp⟩
theorem own_Nt {wl : Nat → Int32} {f : Nat} {fr en kk b nb0 nb1 nb2 nb3 nb4 nb5 nb6 nb7 nb8 nb9 nb10 : Int32} (hf : fr.toInt = (f : Int)) (h3 : f ≤ 3) (hb8 : b.toInt8.toInt32 = b) (hbk : wl (f + kk.toNatClampNeg) = nar .byte b) (en0 : wl (f + 0) = (if 0 = kk.toNatClampNeg then nar .byte b else nar .byte nb0)) (en1 : wl (f + 1) = (if 1 = kk.toNatClampNeg then nar .byte b else nar .byte nb1)) (en2 : wl (f + 2) = (if 2 = kk.toNatClampNeg then nar .byte b else nar .byte nb2)) (en3 : wl (f + 3) = (if 3 = kk.toNatClampNeg then nar .byte b else nar .byte nb3)) (en4 : wl (f + 4) = (if 4 = kk.toNatClampNeg then nar .byte b else nar .byte nb4)) (en5 : wl (f + 5) = (if 5 = kk.toNatClampNeg then nar .byte b else nar .byte nb5)) (en6 : wl (f + 6) = (if 6 = kk.toNatClampNeg then nar .byte b else nar .byte nb6)) (en7 : wl (f + 7) = (if 7 = kk.toNatClampNeg then nar .byte b else nar .byte nb7)) (en8 : wl (f + 8) = (if 8 = kk.toNatClampNeg then nar .byte b else nar .byte nb8)) (en9 : wl (f + 9) = (if 9 = kk.toNatClampNeg then nar .byte b else nar .byte nb9)) (en10 : wl (f + 10) = (if 10 = kk.toNatClampNeg then nar .byte b else nar .byte nb10)) (hnb0 : own_lc (nar .byte nb0) = (120 : Int32)) (hnb1 : own_lc (nar .byte nb1) = (45 : Int32)) (hnb2 : own_lc (nar .byte nb2) = (119 : Int32)) (hnb3 : own_lc (nar .byte nb3) = (111 : Int32)) (hnb4 : own_lc (nar .byte nb4) = (114 : Int32)) (hnb5 : own_lc (nar .byte nb5) = (100 : Int32)) (hnb6 : own_lc (nar .byte nb6) = (45 : Int32)) (hnb7 : own_lc (nar .byte nb7) = (111 : Int32)) (hnb8 : own_lc (nar .byte nb8) = (100 : Int32)) (hnb9 : own_lc (nar .byte nb9) = (100 : Int32)) (hnb10 : own_lc (nar .byte nb10) = (115 : Int32)) (q : own_lc b = own_cl kk) : own_bg wl f fr en = own_t0 wl f fr en := own_bgt hf h3 (fun i => by
  by_cases e : i.val = kk.toNatClampNeg
  · rw [e, hbk]; exact (congrArg own_lc hb8).trans q
  · match i, e with
    | 0, e => exact (congrArg own_lc (en0.trans (if_neg e))).trans hnb0
    | 1, e => exact (congrArg own_lc (en1.trans (if_neg e))).trans hnb1
    | 2, e => exact (congrArg own_lc (en2.trans (if_neg e))).trans hnb2
    | 3, e => exact (congrArg own_lc (en3.trans (if_neg e))).trans hnb3
    | 4, e => exact (congrArg own_lc (en4.trans (if_neg e))).trans hnb4
    | 5, e => exact (congrArg own_lc (en5.trans (if_neg e))).trans hnb5
    | 6, e => exact (congrArg own_lc (en6.trans (if_neg e))).trans hnb6
    | 7, e => exact (congrArg own_lc (en7.trans (if_neg e))).trans hnb7
    | 8, e => exact (congrArg own_lc (en8.trans (if_neg e))).trans hnb8
    | 9, e => exact (congrArg own_lc (en9.trans (if_neg e))).trans hnb9
    | 10, e => exact (congrArg own_lc (en10.trans (if_neg e))).trans hnb10)
theorem own_Nf {wl : Nat → Int32} {f : Nat} {fr en kk b : Int32} (hkl : kk.toNatClampNeg < 11) (hb8 : b.toInt8.toInt32 = b) (hbk : wl (f + kk.toNatClampNeg) = nar .byte b) (q : ¬ own_lc b = own_cl kk) : own_bg wl f fr en = 0 := own_bgf ⟨⟨kk.toNatClampNeg, hkl⟩, fun a => q (by
  have a : own_lc (wl (f + kk.toNatClampNeg)) = own_cl kk := a
  rw [hbk] at a; exact (congrArg own_lc hb8).symm.trans a)⟩
theorem own_N0 {wl : Nat → Int32} {f : Nat} {fr en nb0 nb1 nb2 nb3 nb4 nb5 nb6 nb7 nb8 nb9 nb10 : Int32} (hf : fr.toInt = (f : Int)) (h3 : f ≤ 3) (en0 : wl (f + 0) = nar .byte nb0) (en1 : wl (f + 1) = nar .byte nb1) (en2 : wl (f + 2) = nar .byte nb2) (en3 : wl (f + 3) = nar .byte nb3) (en4 : wl (f + 4) = nar .byte nb4) (en5 : wl (f + 5) = nar .byte nb5) (en6 : wl (f + 6) = nar .byte nb6) (en7 : wl (f + 7) = nar .byte nb7) (en8 : wl (f + 8) = nar .byte nb8) (en9 : wl (f + 9) = nar .byte nb9) (en10 : wl (f + 10) = nar .byte nb10) (hnb0 : own_lc (nar .byte nb0) = (120 : Int32)) (hnb1 : own_lc (nar .byte nb1) = (45 : Int32)) (hnb2 : own_lc (nar .byte nb2) = (119 : Int32)) (hnb3 : own_lc (nar .byte nb3) = (111 : Int32)) (hnb4 : own_lc (nar .byte nb4) = (114 : Int32)) (hnb5 : own_lc (nar .byte nb5) = (100 : Int32)) (hnb6 : own_lc (nar .byte nb6) = (45 : Int32)) (hnb7 : own_lc (nar .byte nb7) = (111 : Int32)) (hnb8 : own_lc (nar .byte nb8) = (100 : Int32)) (hnb9 : own_lc (nar .byte nb9) = (100 : Int32)) (hnb10 : own_lc (nar .byte nb10) = (115 : Int32)) : own_bg wl f fr en = own_t0 wl f fr en := own_bgt hf h3 (fun i => by
  match i with
  | 0 => exact (congrArg own_lc en0).trans hnb0
  | 1 => exact (congrArg own_lc en1).trans hnb1
  | 2 => exact (congrArg own_lc en2).trans hnb2
  | 3 => exact (congrArg own_lc en3).trans hnb3
  | 4 => exact (congrArg own_lc en4).trans hnb4
  | 5 => exact (congrArg own_lc en5).trans hnb5
  | 6 => exact (congrArg own_lc en6).trans hnb6
  | 7 => exact (congrArg own_lc en7).trans hnb7
  | 8 => exact (congrArg own_lc en8).trans hnb8
  | 9 => exact (congrArg own_lc en9).trans hnb9
  | 10 => exact (congrArg own_lc en10).trans hnb10)
theorem ef_0_12 (m : MethodId) (p0 : Int32) (p1 : Int32) (p2 : Int32) (p3 : Int32) (p4 : Int32) : entryFrame m #[(.int p0), (.int p1), (.int p2), (.int p3), (.int p4)] maxLocals = mkF m 0 #[.val (.int p0), .val (.int p1), .val (.int p2), .val (.int p3), .val (.int p4), .unset, .unset, .unset, .unset, .unset, .unset, .unset, .unset, .unset, .unset, .unset, .unset, .unset, .unset, .unset, .unset, .unset, .unset, .unset] [] := by first | (simp [entryFrame, mkF, argsToLocals, Value.category, maxLocals]; done) | rfl
def Q_rm0 (Z : State) (p0 : Int32) (p1 : Int32) (p2 : Int32) (p3 : Int32) (p4 : Int32) (gC : Int32) (vG : Value) (lo : Addr) (ko : ClassId) (h0 : Heap) (n0 : Nat) (v : Option Value) (h : Heap) (L : List Loc) : Prop := v = some (.int 1) ∧ Fr n0 L
theorem pd_7 : parseMethodDescriptor "(IB)B" = some ⟨[.int, .byte], some .byte⟩ := by decide +kernel
theorem pd_8 : parseMethodDescriptor "([BII)Z" = some ⟨[(.array .byte), .int, .int], some .boolean⟩ := by decide +kernel
theorem pd_9 : parseMethodDescriptor "(JJ)J" = some ⟨[.long, .long], some .long⟩ := by decide +kernel
theorem pd_10 : parseMethodDescriptor "(B)Z" = some ⟨[.byte], some .boolean⟩ := by decide +kernel
theorem pd_11 : parseMethodDescriptor "(II)B" = some ⟨[.int, .int], some .byte⟩ := by decide +kernel
set_option maxRecDepth 65536 in
set_option maxHeartbeats 40000000 in
theorem rm0 (l : Launch) (Z : State) (a0 : Array Value) (hw : ∀ d ∈ tables_1, d.before a0 Z = true) (ws : List Jvm.Cond) (p0 : Int32) (p1 : Int32) (p2 : Int32) (p3 : Int32) (p4 : Int32) (gC : Int32) (vG : Value) (lo : Addr) (ko : ClassId) (h0 : Heap) (n0 : Nat) (Z0 : n0 ≤ h0.size) (SC : Sta Z Z.heap "java/lang/String" "COMPACT_STRINGS" "Z" (.int gC)) (cC : ¬ (gC = (0 : Int32))) (hvG : vG.isRef = true) (SG : Sta Z Z.heap "jdk/internal/util/Preconditions" "SIOOBE_FORMATTER" "Ljava/util/function/BiFunction;" vG) (SL : Sta Z Z.heap "com/example/word_odds/wordodds/filter/VerdictField" "LOWER_CASE_NAME" "[B" (.ref lo)) (VL : Arv Z Z.heap lo ko .byte (11 : Int32) [(.int (120 : Int32)), (.int (45 : Int32)), (.int (119 : Int32)), (.int (111 : Int32)), (.int (114 : Int32)), (.int (100 : Int32)), (.int (45 : Int32)), (.int (111 : Int32)), (.int (100 : Int32)), (.int (100 : Int32)), (.int (115 : Int32))] (.int (0 : Int32))) (hEL : EW Z a0 consts_1) (O0 : Old Z n0 h0) :
    MetFree l x (head1 (Jvm.Cond.code x code maxLocals ret :: ws) room_1) (fun a U => a = #[(.int p0), (.int p1), (.int p2), (.int p3), (.int p4)] ∧ Z.Warmed39 U.vm ∧ U.heap = h0 ∧ CHv Z consts_1 U.vm h0) (fun _ _ _ _ _ => True) (fun _ U o U' => ∃ v L, o = .returned v ∧ Q_rm0 Z p0 p1 p2 p3 p4 gC vG lo ko h0 n0 v U'.heap L ∧ CHr Z consts_1 U.vm U.heap U'.vm U'.heap ∧ ReturnedEndW U o U' L room_1.cells room_1.slots) := by
  refine MetFree.of_bodySF (plainFor_of_name pn_com_example_word_odds_wordodds_filter_VerdictFieldBeginsPinLaw) hisR ?_
  intro p e s m args below meth c s₁ Bd hml0 hP hK
  obtain ⟨rfl, hZ, hh, hCv⟩ := hP
  have hx := Bd.exec
  have hby := Bd.bytes
  have hlk := BodyLoose.notSynchronized Bd
  have hrt := Bd.returns
  have hml : c.maxLocals = 24 := hml0
  have hown : s.vm.findClass "com/example/word_odds/wordodds/filter/VerdictFieldBeginsPinLaw" = some m.cls := findClass_of_methodNamed Bd.named
  have hnm := (name_of_methodNamed Bd.named Bd.method).1
  have X0 : Stand p l e room_1 (s.setVm s.vm) m #[(.int p0), (.int p1), (.int p2), (.int p3), (.int p4)] below meth c s₁ [] 0 0 := Stand.of_body Bd
  have e0 : s₁.heap = h0 := by rw [← hh, Bd.state]; rfl
  have N0 := Fr.nil n0
  have K0 : Keep h0 h0 [] := Keep.refl h0 _
  have hC : CHr Z consts_1 s.vm s.heap s.vm h0 := by rw [hh]; exact CHr.refl hCv
  have hS : s.Since s.vm h0.size := (State.WarmedH.refl s).since _
  have hk : h0.size ≤ h0.size := Nat.le_refl _
  show Runs p e below (QEW Z consts_1 s (Q_rm0 Z p0 p1 p2 p3 p4 gC vG lo ko h0 n0) room_1.cells room_1.slots) (s₁.setTop (entryFrame m #[(.int p0), (.int p1), (.int p2), (.int p3), (.int p4)] maxLocals))
  rw [ef_0_12 m p0 p1 p2 p3 p4]
  have wS : ∀ a ∈ Bundle.stringAtoms, a.before a0 Z = true := fun d hd => hw d ((by decide +kernel : ∀ d ∈ Bundle.stringAtoms, d ∈ tables_1) d hd)
  refine Runs.by (fun _ hr => XS.iloadN X0.here hx rfl (hb hby at_0) rfl  hr) ?_
  refine Runs.by (fun _ hr => XS.iconst X0.here hx rfl (hb hby at_1) hr) ?_
  show Runs p e below _ (s₁.setTop (mkF m 2 #[.val (.int p0), .val (.int p1), .val (.int p2), .val (.int p3), .val (.int p4), .unset, .unset, .unset, .unset, .unset, .unset, .unset, .unset, .unset, .unset, .unset, .unset, .unset, .unset, .unset, .unset, .unset, .unset, .unset] [(.int (3 : Int32)), (.int p0)]))
  refine Runs.by (fun _ hr => XS.iand X0.here hx rfl (hb hby at_2) rfl hr) ?_
  obtain ⟨f, hf, h3⟩ := own_and3r p0
  generalize (p0 &&& (3 : Int32)) = fr at hf ⊢
  refine Runs.by (fun _ hr => XS.istore X0.here hx rfl (hb hby at_3) rfl (l' := #[.val (.int p0), .val (.int p1), .val (.int p2), .val (.int p3), .val (.int p4), .val (.int fr), .unset, .unset, .unset, .unset, .unset, .unset, .unset, .unset, .unset, .unset, .unset, .unset, .unset, .unset, .unset, .unset, .unset, .unset]) rfl hr) ?_
  have JT : ∀ (tt : Int32) (TJ1 : State) (lJ1 : List Loc) (XJ1 : Stand p l e room_1 (s.setVm s.vm) m #[(.int p0), (.int p1), (.int p2), (.int p3), (.int p4)] below meth c TJ1 lJ1 0 0) (eJ1 : TJ1.heap = h0) (NJ1 : Fr n0 lJ1), Runs p e below (QEW Z consts_1 s (Q_rm0 Z p0 p1 p2 p3 p4 gC vG lo ko h0 n0) room_1.cells room_1.slots) (TJ1.setTop (mkF m 25 #[.val (.int p0), .val (.int p1), .val (.int p2), .val (.int p3), .val (.int p4), .val (.int fr), .unset, .unset, .unset, .unset, .unset, .unset, .unset, .unset, .unset, .unset, .unset, .unset, .unset, .unset, .unset, .unset, .unset, .unset] [(.int tt)])) := by
    intro tt TJ1 lJ1 XJ1 eJ1 NJ1 
    refine Runs.by (fun _ hr => XS.istore XJ1.here hx rfl (hb hby at_25) rfl (l' := #[.val (.int p0), .val (.int p1), .val (.int p2), .val (.int p3), .val (.int p4), .val (.int fr), .val (.int tt), .unset, .unset, .unset, .unset, .unset, .unset, .unset, .unset, .unset, .unset, .unset, .unset, .unset, .unset, .unset, .unset, .unset]) rfl hr) ?_
    show Runs p e below _ (TJ1.setTop (mkF m 27 #[.val (.int p0), .val (.int p1), .val (.int p2), .val (.int p3), .val (.int p4), .val (.int fr), .val (.int tt), .unset, .unset, .unset, .unset, .unset, .unset, .unset, .unset, .unset, .unset, .unset, .unset, .unset, .unset, .unset, .unset, .unset] []))
    refine Runs.by (fun _ hr => XS.bipush XJ1.here hx rfl (hb hby at_27) hr) ?_
    show Runs p e below _ (TJ1.setTop (mkF m 29 #[.val (.int p0), .val (.int p1), .val (.int p2), .val (.int p3), .val (.int p4), .val (.int fr), .val (.int tt), .unset, .unset, .unset, .unset, .unset, .unset, .unset, .unset, .unset, .unset, .unset, .unset, .unset, .unset, .unset, .unset, .unset] [(.int (24 : Int32))]))
    obtain ⟨T2, h2, k2, X2, e2, E2, A2, st2⟩ := newP XJ1 hx hZ (hw _ (List.mem_of_getElem? (i := 1) rfl)) eJ1 (g := (mkF m 29 #[.val (.int p0), .val (.int p1), .val (.int p2), .val (.int p3), .val (.int p4), .val (.int fr), .val (.int tt), .unset, .unset, .unset, .unset, .unset, .unset, .unset, .unset, .unset, .unset, .unset, .unset, .unset, .unset, .unset, .unset, .unset] [(.int (24 : Int32))])) rfl (hb hby at_29) rfl (by decide) (cap := 24) (by decide) (by decide) (by decide) (by decide)
    obtain ⟨b2, gz2⟩ : ∃ z, z = h0.size := ⟨_, rfl⟩
    rw [← gz2] at A2 st2
    have ne_lo_b2 : lo ≠ b2 := Nat.ne_of_lt (Nat.lt_of_lt_of_le (VL.ext O0.2).lt (Nat.le_of_eq gz2.symm))
    have Sf_b2 : Safe Z consts_1 s.vm h0 b2 := Safe.new (Nat.le_of_eq gz2.symm)
    have g_b2 : n0 ≤ b2 := Nat.le_trans (Nat.le_trans Z0 K0.1) (Nat.le_of_eq gz2.symm)
    have sz_b2 : h0.size ≤ b2 := Nat.le_trans K0.1 (Nat.le_of_eq gz2.symm)
    have K3 : Keep h0 h2 [] := K0.ext E2
    have O_3 : Old Z n0 h2 := O0.ext E2
    have Sf_b2__K3 := Safe.ext E2 hC.1 Sf_b2
    have hk : _ ≤ h2.size := Nat.le_trans hk E2.1
    have hC := hC.trans (CHr.ext E2 hC.1)
    have G2 : Arf Z h2 b2 k2 .byte (24 : Int32) (fun j_ => .int ((fun _ => (0 : Int32)) j_)) := Arf.new A2 (by decide)
    refine Runs.by st2 ?_
    refine Runs.by (fun _ hr => XS.astore X2.here hx rfl (hb hby at_31) rfl rfl (l' := #[.val (.int p0), .val (.int p1), .val (.int p2), .val (.int p3), .val (.int p4), .val (.int fr), .val (.int tt), .val (.ref b2), .unset, .unset, .unset, .unset, .unset, .unset, .unset, .unset, .unset, .unset, .unset, .unset, .unset, .unset, .unset, .unset]) rfl hr) ?_
    refine Runs.by (fun _ hr => XS.aload X2.here hx rfl (hb hby at_33) rfl rfl hr) ?_
    show Runs p e below _ (T2.setTop (mkF m 35 #[.val (.int p0), .val (.int p1), .val (.int p2), .val (.int p3), .val (.int p4), .val (.int fr), .val (.int tt), .val (.ref b2), .unset, .unset, .unset, .unset, .unset, .unset, .unset, .unset, .unset, .unset, .unset, .unset, .unset, .unset, .unset, .unset] [(.ref b2)]))
    refine Runs.by (fun _ hr => XS.iload X2.here hx rfl (hb hby at_35) rfl  hr) ?_
    refine Runs.by (fun _ hr => XS.iconst X2.here hx rfl (hb hby at_37) hr) ?_
    refine Runs.by (fun _ hr => XS.iloadN X2.here hx rfl (hb hby at_38) rfl  hr) ?_
    have JC10 : ∀ (nb0 nb1 nb2 nb3 nb4 nb5 nb6 nb7 nb8 nb9 nb10 : Int32) (cJ10 sJ10 : Nat) (wl10 : Nat → Int32) (TJ34 : State) (hJ34 : Heap) (lJ34 : List Loc) (vJ34 : Vm) (kJ34 : Nat) (XJ34 : Stand p l e room_1 (s.setVm vJ34) m #[(.int p0), (.int p1), (.int p2), (.int p3), (.int p4)] below meth c TJ34 lJ34 cJ10 sJ10) (eJ34 : TJ34.heap = hJ34) (NJ34 : Fr n0 lJ34) (KJ34 : Keep h0 hJ34 []) (OJ34 : Old Z n0 hJ34) (hCJ34 : CHr Z consts_1 s.vm s.heap vJ34 hJ34) (hSJ34 : s.Since vJ34 kJ34) (hkJ34 : kJ34 ≤ hJ34.size) (hZJ34 : Z.Warmed39 vJ34) (hoJ34 : vJ34.findClass "com/example/word_odds/wordodds/filter/VerdictFieldBeginsPinLaw" = some m.cls) (fJ34_0 : Arf Z hJ34 b2 k2 .byte (24 : Int32) (fun j_ => .int (wl10 j_))) (Sf34_b2 : Safe Z consts_1 vJ34 hJ34 b2) (hnb0 : own_lc (nar .byte nb0) = (120 : Int32)) (hnb1 : own_lc (nar .byte nb1) = (45 : Int32)) (hnb2 : own_lc (nar .byte nb2) = (119 : Int32)) (hnb3 : own_lc (nar .byte nb3) = (111 : Int32)) (hnb4 : own_lc (nar .byte nb4) = (114 : Int32)) (hnb5 : own_lc (nar .byte nb5) = (100 : Int32)) (hnb6 : own_lc (nar .byte nb6) = (45 : Int32)) (hnb7 : own_lc (nar .byte nb7) = (111 : Int32)) (hnb8 : own_lc (nar .byte nb8) = (100 : Int32)) (hnb9 : own_lc (nar .byte nb9) = (100 : Int32)) (hnb10 : own_lc (nar .byte nb10) = (115 : Int32)) (hwl10 : wl10 = (own_up (own_up (own_up (own_up (own_up (own_up (own_up (own_up (own_up (own_up (fun _ => (0 : Int32)) (f + 0) (nar .byte nb0)) (f + 1) (nar .byte nb1)) (f + 2) (nar .byte nb2)) (f + 3) (nar .byte nb3)) (f + 4) (nar .byte nb4)) (f + 5) (nar .byte nb5)) (f + 6) (nar .byte nb6)) (f + 7) (nar .byte nb7)) (f + 8) (nar .byte nb8)) (f + 9) (nar .byte nb9))) (inv : own_inv Z vJ34 hJ34 b2 cJ10 sJ10), Runs p e below (QEW Z consts_1 s (Q_rm0 Z p0 p1 p2 p3 p4 gC vG lo ko h0 n0) room_1.cells room_1.slots) (TJ34.setTop (mkF m 172 #[.val (.int p0), .val (.int p1), .val (.int p2), .val (.int p3), .val (.int p4), .val (.int fr), .val (.int tt), .val (.ref b2), .unset, .unset, .unset, .unset, .unset, .unset, .unset, .unset, .unset, .unset, .unset, .unset, .unset, .unset, .unset, .unset] [(.int nb10), (.int (fr + (10 : Int32))), (.ref b2)])) := by
      intro nb0 nb1 nb2 nb3 nb4 nb5 nb6 nb7 nb8 nb9 nb10 cJ10 sJ10 wl10 TJ34 hJ34 lJ34 vJ34 kJ34 XJ34 eJ34 NJ34 KJ34 OJ34 hC hS hk hZ hown fJ34_0 Sf34_b2 hnb0 hnb1 hnb2 hnb3 hnb4 hnb5 hnb6 hnb7 hnb8 hnb9 hnb10 hwl10 inv
      show Runs p e below _ (TJ34.setTop (mkF m 172 #[.val (.int p0), .val (.int p1), .val (.int p2), .val (.int p3), .val (.int p4), .val (.int fr), .val (.int tt), .val (.ref b2), .unset, .unset, .unset, .unset, .unset, .unset, .unset, .unset, .unset, .unset, .unset, .unset, .unset, .unset, .unset, .unset] [(.int nb10), (.int (fr + (10 : Int32))), (.ref b2)]))
      obtain ⟨cl35, Ar35, q35, S35, N35', H35⟩ := id fJ34_0
      have ix35 := own_ix (j := (fr + (10 : Int32))) (z := (24 : Int32)) (n := f + 10) (own_ad hf h3 (n := 10) (by decide) (by decide)) (own_ad24 hf h3 (n := 10) (by decide) (by decide))
      have hin35 : ¬ ((fr + (10 : Int32)) < 0 ∨ cl35.slots.size ≤ ((fr + (10 : Int32))).toNatClampNeg) := inb_of S35 ix35.1
      obtain ⟨T35, h35, X35, e35, W35, st35⟩ := stB XJ34 hx hZ eJ34 Ar35 (j := (fr + (10 : Int32))) hin35 (g := (mkF m 172 #[.val (.int p0), .val (.int p1), .val (.int p2), .val (.int p3), .val (.int p4), .val (.int fr), .val (.int tt), .val (.ref b2), .unset, .unset, .unset, .unset, .unset, .unset, .unset, .unset, .unset, .unset, .unset, .unset, .unset, .unset, .unset, .unset] [(.int nb10), (.int (fr + (10 : Int32))), (.ref b2)])) rfl rfl (hb hby at_172)
      have G35 : Arf Z h35 b2 k2 .byte (24 : Int32) (fun j_ => .int ((own_up wl10 (f + 10) (nar .byte nb10)) j_)) := (Arf.set Ar35 q35 S35 N35' H35 W35 ix35.2.1).cast (fun j_ _ => own_up_map Value.int _ _ _ j_)
      have K36 : Keep h0 h35 [] := KJ34.wr W35 (Or.inr sz_b2)
      have O_36 : Old Z n0 h35 := OJ34.wr W35 g_b2
      have Sf34_b2__K36 := Safe.wr W35 Sf34_b2 hC.1 Sf34_b2
      have hk : _ ≤ h35.size := Nat.le_trans hk (Keep.of_wr W35).1
      have hC := hC.trans (CHr.wr W35 Sf34_b2 hC.1)
      have inv := inv.wr W35
      have N35 := Fr.snoc X35 NJ34 g_b2
      refine Runs.by st35 ?_
      have hle := inv.le
      have XM := X35.mono hle.1 hle.2
      refine Runs.by (fun _ hr => XS.iloadN XM.here hx rfl (hb hby at_173) rfl  hr) ?_
      show Runs p e below _ (T35.setTop (mkF m 174 #[.val (.int p0), .val (.int p1), .val (.int p2), .val (.int p3), .val (.int p4), .val (.int fr), .val (.int tt), .val (.ref b2), .unset, .unset, .unset, .unset, .unset, .unset, .unset, .unset, .unset, .unset, .unset, .unset, .unset, .unset, .unset, .unset] [(.int p3)]))
      refine Runs.by (fun _ hr => XS.i2b XM.here hx rfl (hb hby at_174) rfl hr) ?_
      refine Runs.by (fun _ hr => XS.istore XM.here hx rfl (hb hby at_175) rfl (l' := #[.val (.int p0), .val (.int p1), .val (.int p2), .val (.int p3), .val (.int p4), .val (.int fr), .val (.int tt), .val (.ref b2), .val (.int (p3.toInt8.toInt32)), .unset, .unset, .unset, .unset, .unset, .unset, .unset, .unset, .unset, .unset, .unset, .unset, .unset, .unset, .unset]) rfl hr) ?_
      refine Runs.by (fun _ hr => XS.iloadN XM.here hx rfl (hb hby at_177) rfl  hr) ?_
      show Runs p e below _ (T35.setTop (mkF m 178 #[.val (.int p0), .val (.int p1), .val (.int p2), .val (.int p3), .val (.int p4), .val (.int fr), .val (.int tt), .val (.ref b2), .val (.int (p3.toInt8.toInt32)), .unset, .unset, .unset, .unset, .unset, .unset, .unset, .unset, .unset, .unset, .unset, .unset, .unset, .unset, .unset] [(.int p3)]))
      refine Runs.by (fun _ hr => XS.bipush XM.here hx rfl (hb hby at_178) hr) ?_
      show Runs p e below _ (T35.setTop (mkF m 180 #[.val (.int p0), .val (.int p1), .val (.int p2), .val (.int p3), .val (.int p4), .val (.int fr), .val (.int tt), .val (.ref b2), .val (.int (p3.toInt8.toInt32)), .unset, .unset, .unset, .unset, .unset, .unset, .unset, .unset, .unset, .unset, .unset, .unset, .unset, .unset, .unset] [(.int (8 : Int32)), (.int p3)]))
      refine Runs.by (fun _ hr => XS.ishr XM.here hx rfl (hb hby at_180) rfl hr) ?_
      show Runs p e below _ (T35.setTop (mkF m 181 #[.val (.int p0), .val (.int p1), .val (.int p2), .val (.int p3), .val (.int p4), .val (.int fr), .val (.int tt), .val (.ref b2), .val (.int (p3.toInt8.toInt32)), .unset, .unset, .unset, .unset, .unset, .unset, .unset, .unset, .unset, .unset, .unset, .unset, .unset, .unset, .unset] [(.int (p3 >>> ((8 : Int32) &&& 31)))]))
      refine Runs.by (fun _ hr => XM.ldcI hx hown (mvT hZ (hw _ (List.mem_of_getElem? (i := 0) rfl))) (g := (mkF m 181 #[.val (.int p0), .val (.int p1), .val (.int p2), .val (.int p3), .val (.int p4), .val (.int fr), .val (.int tt), .val (.ref b2), .val (.int (p3.toInt8.toInt32)), .unset, .unset, .unset, .unset, .unset, .unset, .unset, .unset, .unset, .unset, .unset, .unset, .unset, .unset, .unset] [(.int (p3 >>> ((8 : Int32) &&& 31)))])) rfl (hb hby at_181) hr) ?_
      show Runs p e below _ (T35.setTop (mkF m 183 #[.val (.int p0), .val (.int p1), .val (.int p2), .val (.int p3), .val (.int p4), .val (.int fr), .val (.int tt), .val (.ref b2), .val (.int (p3.toInt8.toInt32)), .unset, .unset, .unset, .unset, .unset, .unset, .unset, .unset, .unset, .unset, .unset, .unset, .unset, .unset, .unset] [(.int (2147483647 : Int32)), (.int (p3 >>> ((8 : Int32) &&& 31)))]))
      refine Runs.by (fun _ hr => XS.iand XM.here hx rfl (hb hby at_183) rfl hr) ?_
      refine Runs.by (fun _ hr => XS.bipush XM.here hx rfl (hb hby at_184) hr) ?_
      show Runs p e below _ (T35.setTop (mkF m 186 #[.val (.int p0), .val (.int p1), .val (.int p2), .val (.int p3), .val (.int p4), .val (.int fr), .val (.int tt), .val (.ref b2), .val (.int (p3.toInt8.toInt32)), .unset, .unset, .unset, .unset, .unset, .unset, .unset, .unset, .unset, .unset, .unset, .unset, .unset, .unset, .unset] [(.int (12 : Int32)), (.int ((p3 >>> ((8 : Int32) &&& 31)) &&& (2147483647 : Int32)))]))
      refine Runs.by (fun _ hr => iremM XM hx rfl (hb hby at_186) rfl (by decide) hr) ?_
      have hk12 := own_mod12 (p3 >>> ((8 : Int32) &&& 31))
      generalize (((p3 >>> ((8 : Int32) &&& 31)) &&& (2147483647 : Int32)) % (12 : Int32)) = kk at hk12 ⊢
      refine Runs.by (fun _ hr => XS.istore XM.here hx rfl (hb hby at_187) rfl (l' := #[.val (.int p0), .val (.int p1), .val (.int p2), .val (.int p3), .val (.int p4), .val (.int fr), .val (.int tt), .val (.ref b2), .val (.int (p3.toInt8.toInt32)), .val (.int kk), .unset, .unset, .unset, .unset, .unset, .unset, .unset, .unset, .unset, .unset, .unset, .unset, .unset, .unset]) rfl hr) ?_
      refine Runs.by (fun _ hr => XS.iload XM.here hx rfl (hb hby at_189) rfl  hr) ?_
      show Runs p e below _ (T35.setTop (mkF m 191 #[.val (.int p0), .val (.int p1), .val (.int p2), .val (.int p3), .val (.int p4), .val (.int fr), .val (.int tt), .val (.ref b2), .val (.int (p3.toInt8.toInt32)), .val (.int kk), .unset, .unset, .unset, .unset, .unset, .unset, .unset, .unset, .unset, .unset, .unset, .unset, .unset, .unset] [(.int kk)]))
      refine Runs.by (fun _ hr => XS.bipush XM.here hx rfl (hb hby at_191) hr) ?_
      by_cases hc193 : kk < (11 : Int32)
      · -- pc 193: kk < (11 : Int32)
        refine Runs.by (fun _ hr => XS.icmpNo XM.here hx rfl (hb hby at_193) rfl (tlt hc193).2.1 hr) ?_
        have hkl := own_k11 hk12 hc193
        refine Runs.by (fun _ hr => XS.aload XM.here hx rfl (hb hby at_196) rfl rfl hr) ?_
        show Runs p e below _ (T35.setTop (mkF m 198 #[.val (.int p0), .val (.int p1), .val (.int p2), .val (.int p3), .val (.int p4), .val (.int fr), .val (.int tt), .val (.ref b2), .val (.int (p3.toInt8.toInt32)), .val (.int kk), .unset, .unset, .unset, .unset, .unset, .unset, .unset, .unset, .unset, .unset, .unset, .unset, .unset, .unset] [(.ref b2)]))
        refine Runs.by (fun _ hr => XS.iload XM.here hx rfl (hb hby at_198) rfl  hr) ?_
        refine Runs.by (fun _ hr => XS.iload XM.here hx rfl (hb hby at_200) rfl  hr) ?_
        refine Runs.by (fun _ hr => XS.iadd XM.here hx rfl (hb hby at_202) rfl hr) ?_
        show Runs p e below _ (T35.setTop (mkF m 203 #[.val (.int p0), .val (.int p1), .val (.int p2), .val (.int p3), .val (.int p4), .val (.int fr), .val (.int tt), .val (.ref b2), .val (.int (p3.toInt8.toInt32)), .val (.int kk), .unset, .unset, .unset, .unset, .unset, .unset, .unset, .unset, .unset, .unset, .unset, .unset, .unset, .unset] [(.int (fr + kk)), (.ref b2)]))
        refine Runs.by (fun _ hr => XS.iload XM.here hx rfl (hb hby at_203) rfl  hr) ?_
        show Runs p e below _ (T35.setTop (mkF m 205 #[.val (.int p0), .val (.int p1), .val (.int p2), .val (.int p3), .val (.int p4), .val (.int fr), .val (.int tt), .val (.ref b2), .val (.int (p3.toInt8.toInt32)), .val (.int kk), .unset, .unset, .unset, .unset, .unset, .unset, .unset, .unset, .unset, .unset, .unset, .unset, .unset, .unset] [(.int (p3.toInt8.toInt32)), (.int (fr + kk)), (.ref b2)]))
        obtain ⟨cl37, Ar37, q37, S37, N37', H37⟩ := id G35
        have ix37 := own_ix (j := (fr + kk)) (z := (24 : Int32)) (n := f + kk.toNatClampNeg) (own_ad hf h3 (own_kt hk12.1) (Nat.le_trans (Nat.le_of_lt hkl) (by decide))) (own_ad24 hf h3 (own_kt hk12.1) (Nat.le_trans (Nat.le_of_lt hkl) (by decide)))
        have hin37 : ¬ ((fr + kk) < 0 ∨ cl37.slots.size ≤ ((fr + kk)).toNatClampNeg) := inb_of S37 ix37.1
        obtain ⟨T37, h37, X37, e37, W37, st37⟩ := stB XM hx hZ e35 Ar37 (j := (fr + kk)) hin37 (g := (mkF m 205 #[.val (.int p0), .val (.int p1), .val (.int p2), .val (.int p3), .val (.int p4), .val (.int fr), .val (.int tt), .val (.ref b2), .val (.int (p3.toInt8.toInt32)), .val (.int kk), .unset, .unset, .unset, .unset, .unset, .unset, .unset, .unset, .unset, .unset, .unset, .unset, .unset, .unset] [(.int (p3.toInt8.toInt32)), (.int (fr + kk)), (.ref b2)])) rfl rfl (hb hby at_205)
        have G37 : Arf Z h37 b2 k2 .byte (24 : Int32) (fun j_ => .int ((own_up (own_up wl10 (f + 10) (nar .byte nb10)) (f + kk.toNatClampNeg) (nar .byte (p3.toInt8.toInt32))) j_)) := (Arf.set Ar37 q37 S37 N37' H37 W37 ix37.2.1).cast (fun j_ _ => own_up_map Value.int _ _ _ j_)
        have K38 : Keep h0 h37 [] := K36.wr W37 (Or.inr sz_b2)
        have O_38 : Old Z n0 h37 := O_36.wr W37 g_b2
        have Sf34_b2__K38 := Safe.wr W37 Sf34_b2__K36 hC.1 Sf34_b2__K36
        have hk : _ ≤ h37.size := Nat.le_trans hk (Keep.of_wr W37).1
        have hC := hC.trans (CHr.wr W37 Sf34_b2__K36 hC.1)
        have N37 := Fr.snoc X37 N35 g_b2
        refine Runs.by st37 ?_
        refine Runs.by (fun _ hr => XS.iload X37.here hx rfl (hb hby at_206) rfl  hr) ?_
        refine Runs.by (fun _ hr => XS.bipush X37.here hx rfl (hb hby at_208) hr) ?_
        show Runs p e below _ (T37.setTop (mkF m 210 #[.val (.int p0), .val (.int p1), .val (.int p2), .val (.int p3), .val (.int p4), .val (.int fr), .val (.int tt), .val (.ref b2), .val (.int (p3.toInt8.toInt32)), .val (.int kk), .unset, .unset, .unset, .unset, .unset, .unset, .unset, .unset, .unset, .unset, .unset, .unset, .unset, .unset] [(.int (8 : Int32)), (.int p4)]))
        refine Runs.by (fun _ hr => XS.ishr X37.here hx rfl (hb hby at_210) rfl hr) ?_
        show Runs p e below _ (T37.setTop (mkF m 211 #[.val (.int p0), .val (.int p1), .val (.int p2), .val (.int p3), .val (.int p4), .val (.int fr), .val (.int tt), .val (.ref b2), .val (.int (p3.toInt8.toInt32)), .val (.int kk), .unset, .unset, .unset, .unset, .unset, .unset, .unset, .unset, .unset, .unset, .unset, .unset, .unset, .unset] [(.int (p4 >>> ((8 : Int32) &&& 31)))]))
        refine Runs.by (fun _ hr => XS.i2b X37.here hx rfl (hb hby at_211) rfl hr) ?_
        refine Runs.by (fun _ hr => XS.istore X37.here hx rfl (hb hby at_212) rfl (l' := #[.val (.int p0), .val (.int p1), .val (.int p2), .val (.int p3), .val (.int p4), .val (.int fr), .val (.int tt), .val (.ref b2), .val (.int (p3.toInt8.toInt32)), .val (.int kk), .val (.int ((p4 >>> ((8 : Int32) &&& 31)).toInt8.toInt32)), .unset, .unset, .unset, .unset, .unset, .unset, .unset, .unset, .unset, .unset, .unset, .unset, .unset]) rfl hr) ?_
        refine Runs.by (fun _ hr => XS.iload X37.here hx rfl (hb hby at_214) rfl  hr) ?_
        show Runs p e below _ (T37.setTop (mkF m 216 #[.val (.int p0), .val (.int p1), .val (.int p2), .val (.int p3), .val (.int p4), .val (.int fr), .val (.int tt), .val (.ref b2), .val (.int (p3.toInt8.toInt32)), .val (.int kk), .val (.int ((p4 >>> ((8 : Int32) &&& 31)).toInt8.toInt32)), .unset, .unset, .unset, .unset, .unset, .unset, .unset, .unset, .unset, .unset, .unset, .unset, .unset] [(.int p4)]))
        refine Runs.by (fun _ hr => XS.iload X37.here hx rfl (hb hby at_216) rfl  hr) ?_
        show Runs p e below _ (T37.setTop (mkF m 218 #[.val (.int p0), .val (.int p1), .val (.int p2), .val (.int p3), .val (.int p4), .val (.int fr), .val (.int tt), .val (.ref b2), .val (.int (p3.toInt8.toInt32)), .val (.int kk), .val (.int ((p4 >>> ((8 : Int32) &&& 31)).toInt8.toInt32)), .unset, .unset, .unset, .unset, .unset, .unset, .unset, .unset, .unset, .unset, .unset, .unset, .unset] [(.int ((p4 >>> ((8 : Int32) &&& 31)).toInt8.toInt32)), (.int p4)]))
        obtain ⟨_, _, ⟨T39, L39, k39, n39⟩, -, X39, ⟨Lc39, hQ39, l39, y39, z39⟩, st39⟩ := Jvm.LawKit.callS X37 hx (y := (⟨"com/example/word_odds/wordodds/filter/VerdictFieldBeginsPinLaw", "suffixByte", "(IB)B"⟩ : MethodName)) hown (mvT hZ (hw _ (List.mem_of_getElem? (i := 39) rfl))) (mvT hZ (hw _ (List.mem_of_getElem? (i := 40) rfl))) (mvT hZ (hw _ (List.mem_of_getElem? (i := 4) rfl))) (mvT hZ (hw _ (List.mem_of_getElem? (i := 41) rfl))) (by decide) (backOf (W := 0) (rm7 l Z a0 hw [] p4 ((p4 >>> ((8 : Int32) &&& 31)).toInt8.toInt32)  h37 n0 (Nat.le_trans Z0 K38.1) (own_b8 _)) hZ (hw _ (List.mem_of_getElem? (i := 41) rfl)) (hw _ (List.mem_of_getElem? (i := 4) rfl)) (by decide) (by decide)) (g := (mkF m 218 #[.val (.int p0), .val (.int p1), .val (.int p2), .val (.int p3), .val (.int p4), .val (.int fr), .val (.int tt), .val (.ref b2), .val (.int (p3.toInt8.toInt32)), .val (.int kk), .val (.int ((p4 >>> ((8 : Int32) &&& 31)).toInt8.toInt32)), .unset, .unset, .unset, .unset, .unset, .unset, .unset, .unset, .unset, .unset, .unset, .unset, .unset] [(.int ((p4 >>> ((8 : Int32) &&& 31)).toInt8.toInt32)), (.int p4)])) rfl (by rw [hml]; rfl) (argsL := [(.int p4), (.int ((p4 >>> ((8 : Int32) &&& 31)).toInt8.toInt32))]) (rest := []) (lenOf pd_7 rfl) rfl (by show 2 * 0 + _ ≤ _; exact Nat.le_of_eq rfl) (hb hby at_218) (fun _ _ => ⟨rfl, e37, (by decide : 5 + 0 ≤ _), (by decide : 120 + 0 ≤ _)⟩)
        dsimp only [Pt.U, Pt.locs, Pt.cells, Pt.slots] at X39 l39 y39 z39 st39 hQ39
        subst l39 y39 z39
        obtain ⟨rfl, Nq39, eq39⟩ := hQ39
        have N39 := Fr.app N37 Nq39
        refine Runs.by (fun t hr => st39 t hr) ?_
        have hz0 : (own_sf p4 ((p4 >>> ((8 : Int32) &&& 31)).toInt8.toInt32)).toInt8.toInt32 = own_sf p4 ((p4 >>> ((8 : Int32) &&& 31)).toInt8.toInt32) := own_sf8 (own_b8 _)
        generalize own_sf p4 ((p4 >>> ((8 : Int32) &&& 31)).toInt8.toInt32) = z0 at hz0 ⊢
        refine Runs.by (fun _ hr => XS.istore X39.here hx rfl (hb hby at_221) rfl (l' := #[.val (.int p0), .val (.int p1), .val (.int p2), .val (.int p3), .val (.int p4), .val (.int fr), .val (.int tt), .val (.ref b2), .val (.int (p3.toInt8.toInt32)), .val (.int kk), .val (.int ((p4 >>> ((8 : Int32) &&& 31)).toInt8.toInt32)), .val (.int z0), .unset, .unset, .unset, .unset, .unset, .unset, .unset, .unset, .unset, .unset, .unset, .unset]) rfl hr) ?_
        refine Runs.by (fun _ hr => XS.iload X39.here hx rfl (hb hby at_223) rfl  hr) ?_
        show Runs p e below _ (T39.setTop (mkF m 225 #[.val (.int p0), .val (.int p1), .val (.int p2), .val (.int p3), .val (.int p4), .val (.int fr), .val (.int tt), .val (.ref b2), .val (.int (p3.toInt8.toInt32)), .val (.int kk), .val (.int ((p4 >>> ((8 : Int32) &&& 31)).toInt8.toInt32)), .val (.int z0), .unset, .unset, .unset, .unset, .unset, .unset, .unset, .unset, .unset, .unset, .unset, .unset] [(.int p4)]))
        refine Runs.by (fun _ hr => XS.iconst X39.here hx rfl (hb hby at_225) hr) ?_
        show Runs p e below _ (T39.setTop (mkF m 226 #[.val (.int p0), .val (.int p1), .val (.int p2), .val (.int p3), .val (.int p4), .val (.int fr), .val (.int tt), .val (.ref b2), .val (.int (p3.toInt8.toInt32)), .val (.int kk), .val (.int ((p4 >>> ((8 : Int32) &&& 31)).toInt8.toInt32)), .val (.int z0), .unset, .unset, .unset, .unset, .unset, .unset, .unset, .unset, .unset, .unset, .unset, .unset] [(.int (2 : Int32)), (.int p4)]))
        refine Runs.by (fun _ hr => XS.ishr X39.here hx rfl (hb hby at_226) rfl hr) ?_
        refine Runs.by (fun _ hr => XS.iload X39.here hx rfl (hb hby at_227) rfl  hr) ?_
        show Runs p e below _ (T39.setTop (mkF m 229 #[.val (.int p0), .val (.int p1), .val (.int p2), .val (.int p3), .val (.int p4), .val (.int fr), .val (.int tt), .val (.ref b2), .val (.int (p3.toInt8.toInt32)), .val (.int kk), .val (.int ((p4 >>> ((8 : Int32) &&& 31)).toInt8.toInt32)), .val (.int z0), .unset, .unset, .unset, .unset, .unset, .unset, .unset, .unset, .unset, .unset, .unset, .unset] [(.int ((p4 >>> ((8 : Int32) &&& 31)).toInt8.toInt32)), (.int (p4 >>> ((2 : Int32) &&& 31)))]))
        obtain ⟨_, _, ⟨T40, L40, k40, n40⟩, -, X40, ⟨Lc40, hQ40, l40, y40, z40⟩, st40⟩ := Jvm.LawKit.callS X39 hx (y := (⟨"com/example/word_odds/wordodds/filter/VerdictFieldBeginsPinLaw", "suffixByte", "(IB)B"⟩ : MethodName)) hown (mvT hZ (hw _ (List.mem_of_getElem? (i := 39) rfl))) (mvT hZ (hw _ (List.mem_of_getElem? (i := 40) rfl))) (mvT hZ (hw _ (List.mem_of_getElem? (i := 4) rfl))) (mvT hZ (hw _ (List.mem_of_getElem? (i := 41) rfl))) (by decide) (backOf (W := 0) (rm7 l Z a0 hw [] (p4 >>> ((2 : Int32) &&& 31)) ((p4 >>> ((8 : Int32) &&& 31)).toInt8.toInt32)  h37 n0 (Nat.le_trans Z0 K38.1) (own_b8 _)) hZ (hw _ (List.mem_of_getElem? (i := 41) rfl)) (hw _ (List.mem_of_getElem? (i := 4) rfl)) (by decide) (by decide)) (g := (mkF m 229 #[.val (.int p0), .val (.int p1), .val (.int p2), .val (.int p3), .val (.int p4), .val (.int fr), .val (.int tt), .val (.ref b2), .val (.int (p3.toInt8.toInt32)), .val (.int kk), .val (.int ((p4 >>> ((8 : Int32) &&& 31)).toInt8.toInt32)), .val (.int z0), .unset, .unset, .unset, .unset, .unset, .unset, .unset, .unset, .unset, .unset, .unset, .unset] [(.int ((p4 >>> ((8 : Int32) &&& 31)).toInt8.toInt32)), (.int (p4 >>> ((2 : Int32) &&& 31)))])) rfl (by rw [hml]; rfl) (argsL := [(.int (p4 >>> ((2 : Int32) &&& 31))), (.int ((p4 >>> ((8 : Int32) &&& 31)).toInt8.toInt32))]) (rest := []) (lenOf pd_7 rfl) rfl (by show 2 * 0 + _ ≤ _; exact Nat.le_of_eq rfl) (hb hby at_229) (fun _ _ => ⟨rfl, eq39, (by decide : 5 + 0 ≤ _), (by decide : 120 + 0 ≤ _)⟩)
        dsimp only [Pt.U, Pt.locs, Pt.cells, Pt.slots] at X40 l40 y40 z40 st40 hQ40
        subst l40 y40 z40
        obtain ⟨rfl, Nq40, eq40⟩ := hQ40
        have N40 := Fr.app N39 Nq40
        refine Runs.by (fun t hr => st40 t hr) ?_
        have hz1 : (own_sf (p4 >>> ((2 : Int32) &&& 31)) ((p4 >>> ((8 : Int32) &&& 31)).toInt8.toInt32)).toInt8.toInt32 = own_sf (p4 >>> ((2 : Int32) &&& 31)) ((p4 >>> ((8 : Int32) &&& 31)).toInt8.toInt32) := own_sf8 (own_b8 _)
        generalize own_sf (p4 >>> ((2 : Int32) &&& 31)) ((p4 >>> ((8 : Int32) &&& 31)).toInt8.toInt32) = z1 at hz1 ⊢
        refine Runs.by (fun _ hr => XS.istore X40.here hx rfl (hb hby at_232) rfl (l' := #[.val (.int p0), .val (.int p1), .val (.int p2), .val (.int p3), .val (.int p4), .val (.int fr), .val (.int tt), .val (.ref b2), .val (.int (p3.toInt8.toInt32)), .val (.int kk), .val (.int ((p4 >>> ((8 : Int32) &&& 31)).toInt8.toInt32)), .val (.int z0), .val (.int z1), .unset, .unset, .unset, .unset, .unset, .unset, .unset, .unset, .unset, .unset, .unset]) rfl hr) ?_
        refine Runs.by (fun _ hr => XS.iload X40.here hx rfl (hb hby at_234) rfl  hr) ?_
        show Runs p e below _ (T40.setTop (mkF m 236 #[.val (.int p0), .val (.int p1), .val (.int p2), .val (.int p3), .val (.int p4), .val (.int fr), .val (.int tt), .val (.ref b2), .val (.int (p3.toInt8.toInt32)), .val (.int kk), .val (.int ((p4 >>> ((8 : Int32) &&& 31)).toInt8.toInt32)), .val (.int z0), .val (.int z1), .unset, .unset, .unset, .unset, .unset, .unset, .unset, .unset, .unset, .unset, .unset] [(.int p4)]))
        refine Runs.by (fun _ hr => XS.iconst X40.here hx rfl (hb hby at_236) hr) ?_
        show Runs p e below _ (T40.setTop (mkF m 237 #[.val (.int p0), .val (.int p1), .val (.int p2), .val (.int p3), .val (.int p4), .val (.int fr), .val (.int tt), .val (.ref b2), .val (.int (p3.toInt8.toInt32)), .val (.int kk), .val (.int ((p4 >>> ((8 : Int32) &&& 31)).toInt8.toInt32)), .val (.int z0), .val (.int z1), .unset, .unset, .unset, .unset, .unset, .unset, .unset, .unset, .unset, .unset, .unset] [(.int (4 : Int32)), (.int p4)]))
        refine Runs.by (fun _ hr => XS.ishr X40.here hx rfl (hb hby at_237) rfl hr) ?_
        refine Runs.by (fun _ hr => XS.iload X40.here hx rfl (hb hby at_238) rfl  hr) ?_
        show Runs p e below _ (T40.setTop (mkF m 240 #[.val (.int p0), .val (.int p1), .val (.int p2), .val (.int p3), .val (.int p4), .val (.int fr), .val (.int tt), .val (.ref b2), .val (.int (p3.toInt8.toInt32)), .val (.int kk), .val (.int ((p4 >>> ((8 : Int32) &&& 31)).toInt8.toInt32)), .val (.int z0), .val (.int z1), .unset, .unset, .unset, .unset, .unset, .unset, .unset, .unset, .unset, .unset, .unset] [(.int ((p4 >>> ((8 : Int32) &&& 31)).toInt8.toInt32)), (.int (p4 >>> ((4 : Int32) &&& 31)))]))
        obtain ⟨_, _, ⟨T41, L41, k41, n41⟩, -, X41, ⟨Lc41, hQ41, l41, y41, z41⟩, st41⟩ := Jvm.LawKit.callS X40 hx (y := (⟨"com/example/word_odds/wordodds/filter/VerdictFieldBeginsPinLaw", "suffixByte", "(IB)B"⟩ : MethodName)) hown (mvT hZ (hw _ (List.mem_of_getElem? (i := 39) rfl))) (mvT hZ (hw _ (List.mem_of_getElem? (i := 40) rfl))) (mvT hZ (hw _ (List.mem_of_getElem? (i := 4) rfl))) (mvT hZ (hw _ (List.mem_of_getElem? (i := 41) rfl))) (by decide) (backOf (W := 0) (rm7 l Z a0 hw [] (p4 >>> ((4 : Int32) &&& 31)) ((p4 >>> ((8 : Int32) &&& 31)).toInt8.toInt32)  h37 n0 (Nat.le_trans Z0 K38.1) (own_b8 _)) hZ (hw _ (List.mem_of_getElem? (i := 41) rfl)) (hw _ (List.mem_of_getElem? (i := 4) rfl)) (by decide) (by decide)) (g := (mkF m 240 #[.val (.int p0), .val (.int p1), .val (.int p2), .val (.int p3), .val (.int p4), .val (.int fr), .val (.int tt), .val (.ref b2), .val (.int (p3.toInt8.toInt32)), .val (.int kk), .val (.int ((p4 >>> ((8 : Int32) &&& 31)).toInt8.toInt32)), .val (.int z0), .val (.int z1), .unset, .unset, .unset, .unset, .unset, .unset, .unset, .unset, .unset, .unset, .unset] [(.int ((p4 >>> ((8 : Int32) &&& 31)).toInt8.toInt32)), (.int (p4 >>> ((4 : Int32) &&& 31)))])) rfl (by rw [hml]; rfl) (argsL := [(.int (p4 >>> ((4 : Int32) &&& 31))), (.int ((p4 >>> ((8 : Int32) &&& 31)).toInt8.toInt32))]) (rest := []) (lenOf pd_7 rfl) rfl (by show 2 * 0 + _ ≤ _; exact Nat.le_of_eq rfl) (hb hby at_240) (fun _ _ => ⟨rfl, eq40, (by decide : 5 + 0 ≤ _), (by decide : 120 + 0 ≤ _)⟩)
        dsimp only [Pt.U, Pt.locs, Pt.cells, Pt.slots] at X41 l41 y41 z41 st41 hQ41
        subst l41 y41 z41
        obtain ⟨rfl, Nq41, eq41⟩ := hQ41
        have N41 := Fr.app N40 Nq41
        refine Runs.by (fun t hr => st41 t hr) ?_
        have hz2 : (own_sf (p4 >>> ((4 : Int32) &&& 31)) ((p4 >>> ((8 : Int32) &&& 31)).toInt8.toInt32)).toInt8.toInt32 = own_sf (p4 >>> ((4 : Int32) &&& 31)) ((p4 >>> ((8 : Int32) &&& 31)).toInt8.toInt32) := own_sf8 (own_b8 _)
        generalize own_sf (p4 >>> ((4 : Int32) &&& 31)) ((p4 >>> ((8 : Int32) &&& 31)).toInt8.toInt32) = z2 at hz2 ⊢
        refine Runs.by (fun _ hr => XS.istore X41.here hx rfl (hb hby at_243) rfl (l' := #[.val (.int p0), .val (.int p1), .val (.int p2), .val (.int p3), .val (.int p4), .val (.int fr), .val (.int tt), .val (.ref b2), .val (.int (p3.toInt8.toInt32)), .val (.int kk), .val (.int ((p4 >>> ((8 : Int32) &&& 31)).toInt8.toInt32)), .val (.int z0), .val (.int z1), .val (.int z2), .unset, .unset, .unset, .unset, .unset, .unset, .unset, .unset, .unset, .unset]) rfl hr) ?_
        refine Runs.by (fun _ hr => XS.iload X41.here hx rfl (hb hby at_245) rfl  hr) ?_
        show Runs p e below _ (T41.setTop (mkF m 247 #[.val (.int p0), .val (.int p1), .val (.int p2), .val (.int p3), .val (.int p4), .val (.int fr), .val (.int tt), .val (.ref b2), .val (.int (p3.toInt8.toInt32)), .val (.int kk), .val (.int ((p4 >>> ((8 : Int32) &&& 31)).toInt8.toInt32)), .val (.int z0), .val (.int z1), .val (.int z2), .unset, .unset, .unset, .unset, .unset, .unset, .unset, .unset, .unset, .unset] [(.int p4)]))
        refine Runs.by (fun _ hr => XS.bipush X41.here hx rfl (hb hby at_247) hr) ?_
        show Runs p e below _ (T41.setTop (mkF m 249 #[.val (.int p0), .val (.int p1), .val (.int p2), .val (.int p3), .val (.int p4), .val (.int fr), .val (.int tt), .val (.ref b2), .val (.int (p3.toInt8.toInt32)), .val (.int kk), .val (.int ((p4 >>> ((8 : Int32) &&& 31)).toInt8.toInt32)), .val (.int z0), .val (.int z1), .val (.int z2), .unset, .unset, .unset, .unset, .unset, .unset, .unset, .unset, .unset, .unset] [(.int (6 : Int32)), (.int p4)]))
        refine Runs.by (fun _ hr => XS.ishr X41.here hx rfl (hb hby at_249) rfl hr) ?_
        refine Runs.by (fun _ hr => XS.iload X41.here hx rfl (hb hby at_250) rfl  hr) ?_
        show Runs p e below _ (T41.setTop (mkF m 252 #[.val (.int p0), .val (.int p1), .val (.int p2), .val (.int p3), .val (.int p4), .val (.int fr), .val (.int tt), .val (.ref b2), .val (.int (p3.toInt8.toInt32)), .val (.int kk), .val (.int ((p4 >>> ((8 : Int32) &&& 31)).toInt8.toInt32)), .val (.int z0), .val (.int z1), .val (.int z2), .unset, .unset, .unset, .unset, .unset, .unset, .unset, .unset, .unset, .unset] [(.int ((p4 >>> ((8 : Int32) &&& 31)).toInt8.toInt32)), (.int (p4 >>> ((6 : Int32) &&& 31)))]))
        obtain ⟨_, _, ⟨T42, L42, k42, n42⟩, -, X42, ⟨Lc42, hQ42, l42, y42, z42⟩, st42⟩ := Jvm.LawKit.callS X41 hx (y := (⟨"com/example/word_odds/wordodds/filter/VerdictFieldBeginsPinLaw", "suffixByte", "(IB)B"⟩ : MethodName)) hown (mvT hZ (hw _ (List.mem_of_getElem? (i := 39) rfl))) (mvT hZ (hw _ (List.mem_of_getElem? (i := 40) rfl))) (mvT hZ (hw _ (List.mem_of_getElem? (i := 4) rfl))) (mvT hZ (hw _ (List.mem_of_getElem? (i := 41) rfl))) (by decide) (backOf (W := 0) (rm7 l Z a0 hw [] (p4 >>> ((6 : Int32) &&& 31)) ((p4 >>> ((8 : Int32) &&& 31)).toInt8.toInt32)  h37 n0 (Nat.le_trans Z0 K38.1) (own_b8 _)) hZ (hw _ (List.mem_of_getElem? (i := 41) rfl)) (hw _ (List.mem_of_getElem? (i := 4) rfl)) (by decide) (by decide)) (g := (mkF m 252 #[.val (.int p0), .val (.int p1), .val (.int p2), .val (.int p3), .val (.int p4), .val (.int fr), .val (.int tt), .val (.ref b2), .val (.int (p3.toInt8.toInt32)), .val (.int kk), .val (.int ((p4 >>> ((8 : Int32) &&& 31)).toInt8.toInt32)), .val (.int z0), .val (.int z1), .val (.int z2), .unset, .unset, .unset, .unset, .unset, .unset, .unset, .unset, .unset, .unset] [(.int ((p4 >>> ((8 : Int32) &&& 31)).toInt8.toInt32)), (.int (p4 >>> ((6 : Int32) &&& 31)))])) rfl (by rw [hml]; rfl) (argsL := [(.int (p4 >>> ((6 : Int32) &&& 31))), (.int ((p4 >>> ((8 : Int32) &&& 31)).toInt8.toInt32))]) (rest := []) (lenOf pd_7 rfl) rfl (by show 2 * 0 + _ ≤ _; exact Nat.le_of_eq rfl) (hb hby at_252) (fun _ _ => ⟨rfl, eq41, (by decide : 5 + 0 ≤ _), (by decide : 120 + 0 ≤ _)⟩)
        dsimp only [Pt.U, Pt.locs, Pt.cells, Pt.slots] at X42 l42 y42 z42 st42 hQ42
        subst l42 y42 z42
        obtain ⟨rfl, Nq42, eq42⟩ := hQ42
        have N42 := Fr.app N41 Nq42
        refine Runs.by (fun t hr => st42 t hr) ?_
        have hz3 : (own_sf (p4 >>> ((6 : Int32) &&& 31)) ((p4 >>> ((8 : Int32) &&& 31)).toInt8.toInt32)).toInt8.toInt32 = own_sf (p4 >>> ((6 : Int32) &&& 31)) ((p4 >>> ((8 : Int32) &&& 31)).toInt8.toInt32) := own_sf8 (own_b8 _)
        generalize own_sf (p4 >>> ((6 : Int32) &&& 31)) ((p4 >>> ((8 : Int32) &&& 31)).toInt8.toInt32) = z3 at hz3 ⊢
        refine Runs.by (fun _ hr => XS.istore X42.here hx rfl (hb hby at_255) rfl (l' := #[.val (.int p0), .val (.int p1), .val (.int p2), .val (.int p3), .val (.int p4), .val (.int fr), .val (.int tt), .val (.ref b2), .val (.int (p3.toInt8.toInt32)), .val (.int kk), .val (.int ((p4 >>> ((8 : Int32) &&& 31)).toInt8.toInt32)), .val (.int z0), .val (.int z1), .val (.int z2), .val (.int z3), .unset, .unset, .unset, .unset, .unset, .unset, .unset, .unset, .unset]) rfl hr) ?_
        refine Runs.by (fun _ hr => XS.aload X42.here hx rfl (hb hby at_257) rfl rfl hr) ?_
        show Runs p e below _ (T42.setTop (mkF m 259 #[.val (.int p0), .val (.int p1), .val (.int p2), .val (.int p3), .val (.int p4), .val (.int fr), .val (.int tt), .val (.ref b2), .val (.int (p3.toInt8.toInt32)), .val (.int kk), .val (.int ((p4 >>> ((8 : Int32) &&& 31)).toInt8.toInt32)), .val (.int z0), .val (.int z1), .val (.int z2), .val (.int z3), .unset, .unset, .unset, .unset, .unset, .unset, .unset, .unset, .unset] [(.ref b2)]))
        refine Runs.by (fun _ hr => XS.iload X42.here hx rfl (hb hby at_259) rfl  hr) ?_
        refine Runs.by (fun _ hr => XS.bipush X42.here hx rfl (hb hby at_261) hr) ?_
        refine Runs.by (fun _ hr => XS.iadd X42.here hx rfl (hb hby at_263) rfl hr) ?_
        show Runs p e below _ (T42.setTop (mkF m 264 #[.val (.int p0), .val (.int p1), .val (.int p2), .val (.int p3), .val (.int p4), .val (.int fr), .val (.int tt), .val (.ref b2), .val (.int (p3.toInt8.toInt32)), .val (.int kk), .val (.int ((p4 >>> ((8 : Int32) &&& 31)).toInt8.toInt32)), .val (.int z0), .val (.int z1), .val (.int z2), .val (.int z3), .unset, .unset, .unset, .unset, .unset, .unset, .unset, .unset, .unset] [(.int (fr + (11 : Int32))), (.ref b2)]))
        refine Runs.by (fun _ hr => XS.iload X42.here hx rfl (hb hby at_264) rfl  hr) ?_
        show Runs p e below _ (T42.setTop (mkF m 266 #[.val (.int p0), .val (.int p1), .val (.int p2), .val (.int p3), .val (.int p4), .val (.int fr), .val (.int tt), .val (.ref b2), .val (.int (p3.toInt8.toInt32)), .val (.int kk), .val (.int ((p4 >>> ((8 : Int32) &&& 31)).toInt8.toInt32)), .val (.int z0), .val (.int z1), .val (.int z2), .val (.int z3), .unset, .unset, .unset, .unset, .unset, .unset, .unset, .unset, .unset] [(.int z0), (.int (fr + (11 : Int32))), (.ref b2)]))
        obtain ⟨cl43, Ar43, q43, S43, N43', H43⟩ := id G37
        have ix43 := own_ix (j := (fr + (11 : Int32))) (z := (24 : Int32)) (n := f + 11) (own_ad hf h3 (n := 11) (by decide) (by decide)) (own_ad24 hf h3 (n := 11) (by decide) (by decide))
        have hin43 : ¬ ((fr + (11 : Int32)) < 0 ∨ cl43.slots.size ≤ ((fr + (11 : Int32))).toNatClampNeg) := inb_of S43 ix43.1
        obtain ⟨T43, h43, X43, e43, W43, st43⟩ := stB X42 hx hZ eq42 Ar43 (j := (fr + (11 : Int32))) hin43 (g := (mkF m 266 #[.val (.int p0), .val (.int p1), .val (.int p2), .val (.int p3), .val (.int p4), .val (.int fr), .val (.int tt), .val (.ref b2), .val (.int (p3.toInt8.toInt32)), .val (.int kk), .val (.int ((p4 >>> ((8 : Int32) &&& 31)).toInt8.toInt32)), .val (.int z0), .val (.int z1), .val (.int z2), .val (.int z3), .unset, .unset, .unset, .unset, .unset, .unset, .unset, .unset, .unset] [(.int z0), (.int (fr + (11 : Int32))), (.ref b2)])) rfl rfl (hb hby at_266)
        have G43 : Arf Z h43 b2 k2 .byte (24 : Int32) (fun j_ => .int ((own_up (own_up (own_up wl10 (f + 10) (nar .byte nb10)) (f + kk.toNatClampNeg) (nar .byte (p3.toInt8.toInt32))) (f + 11) (nar .byte z0)) j_)) := (Arf.set Ar43 q43 S43 N43' H43 W43 ix43.2.1).cast (fun j_ _ => own_up_map Value.int _ _ _ j_)
        have K44 : Keep h0 h43 [] := K38.wr W43 (Or.inr sz_b2)
        have O_44 : Old Z n0 h43 := O_38.wr W43 g_b2
        have Sf34_b2__K44 := Safe.wr W43 Sf34_b2__K38 hC.1 Sf34_b2__K38
        have hk : _ ≤ h43.size := Nat.le_trans hk (Keep.of_wr W43).1
        have hC := hC.trans (CHr.wr W43 Sf34_b2__K38 hC.1)
        have N43 := Fr.snoc X43 N42 g_b2
        refine Runs.by st43 ?_
        refine Runs.by (fun _ hr => XS.aload X43.here hx rfl (hb hby at_267) rfl rfl hr) ?_
        refine Runs.by (fun _ hr => XS.iload X43.here hx rfl (hb hby at_269) rfl  hr) ?_
        show Runs p e below _ (T43.setTop (mkF m 271 #[.val (.int p0), .val (.int p1), .val (.int p2), .val (.int p3), .val (.int p4), .val (.int fr), .val (.int tt), .val (.ref b2), .val (.int (p3.toInt8.toInt32)), .val (.int kk), .val (.int ((p4 >>> ((8 : Int32) &&& 31)).toInt8.toInt32)), .val (.int z0), .val (.int z1), .val (.int z2), .val (.int z3), .unset, .unset, .unset, .unset, .unset, .unset, .unset, .unset, .unset] [(.int fr), (.ref b2)]))
        refine Runs.by (fun _ hr => XS.bipush X43.here hx rfl (hb hby at_271) hr) ?_
        refine Runs.by (fun _ hr => XS.iadd X43.here hx rfl (hb hby at_273) rfl hr) ?_
        refine Runs.by (fun _ hr => XS.iload X43.here hx rfl (hb hby at_274) rfl  hr) ?_
        show Runs p e below _ (T43.setTop (mkF m 276 #[.val (.int p0), .val (.int p1), .val (.int p2), .val (.int p3), .val (.int p4), .val (.int fr), .val (.int tt), .val (.ref b2), .val (.int (p3.toInt8.toInt32)), .val (.int kk), .val (.int ((p4 >>> ((8 : Int32) &&& 31)).toInt8.toInt32)), .val (.int z0), .val (.int z1), .val (.int z2), .val (.int z3), .unset, .unset, .unset, .unset, .unset, .unset, .unset, .unset, .unset] [(.int z1), (.int (fr + (12 : Int32))), (.ref b2)]))
        obtain ⟨cl45, Ar45, q45, S45, N45', H45⟩ := id G43
        have ix45 := own_ix (j := (fr + (12 : Int32))) (z := (24 : Int32)) (n := f + 12) (own_ad hf h3 (n := 12) (by decide) (by decide)) (own_ad24 hf h3 (n := 12) (by decide) (by decide))
        have hin45 : ¬ ((fr + (12 : Int32)) < 0 ∨ cl45.slots.size ≤ ((fr + (12 : Int32))).toNatClampNeg) := inb_of S45 ix45.1
        obtain ⟨T45, h45, X45, e45, W45, st45⟩ := stB X43 hx hZ e43 Ar45 (j := (fr + (12 : Int32))) hin45 (g := (mkF m 276 #[.val (.int p0), .val (.int p1), .val (.int p2), .val (.int p3), .val (.int p4), .val (.int fr), .val (.int tt), .val (.ref b2), .val (.int (p3.toInt8.toInt32)), .val (.int kk), .val (.int ((p4 >>> ((8 : Int32) &&& 31)).toInt8.toInt32)), .val (.int z0), .val (.int z1), .val (.int z2), .val (.int z3), .unset, .unset, .unset, .unset, .unset, .unset, .unset, .unset, .unset] [(.int z1), (.int (fr + (12 : Int32))), (.ref b2)])) rfl rfl (hb hby at_276)
        have G45 : Arf Z h45 b2 k2 .byte (24 : Int32) (fun j_ => .int ((own_up (own_up (own_up (own_up wl10 (f + 10) (nar .byte nb10)) (f + kk.toNatClampNeg) (nar .byte (p3.toInt8.toInt32))) (f + 11) (nar .byte z0)) (f + 12) (nar .byte z1)) j_)) := (Arf.set Ar45 q45 S45 N45' H45 W45 ix45.2.1).cast (fun j_ _ => own_up_map Value.int _ _ _ j_)
        have K46 : Keep h0 h45 [] := K44.wr W45 (Or.inr sz_b2)
        have O_46 : Old Z n0 h45 := O_44.wr W45 g_b2
        have Sf34_b2__K46 := Safe.wr W45 Sf34_b2__K44 hC.1 Sf34_b2__K44
        have hk : _ ≤ h45.size := Nat.le_trans hk (Keep.of_wr W45).1
        have hC := hC.trans (CHr.wr W45 Sf34_b2__K44 hC.1)
        have N45 := Fr.snoc X45 N43 g_b2
        refine Runs.by st45 ?_
        refine Runs.by (fun _ hr => XS.aload X45.here hx rfl (hb hby at_277) rfl rfl hr) ?_
        refine Runs.by (fun _ hr => XS.iload X45.here hx rfl (hb hby at_279) rfl  hr) ?_
        show Runs p e below _ (T45.setTop (mkF m 281 #[.val (.int p0), .val (.int p1), .val (.int p2), .val (.int p3), .val (.int p4), .val (.int fr), .val (.int tt), .val (.ref b2), .val (.int (p3.toInt8.toInt32)), .val (.int kk), .val (.int ((p4 >>> ((8 : Int32) &&& 31)).toInt8.toInt32)), .val (.int z0), .val (.int z1), .val (.int z2), .val (.int z3), .unset, .unset, .unset, .unset, .unset, .unset, .unset, .unset, .unset] [(.int fr), (.ref b2)]))
        refine Runs.by (fun _ hr => XS.bipush X45.here hx rfl (hb hby at_281) hr) ?_
        refine Runs.by (fun _ hr => XS.iadd X45.here hx rfl (hb hby at_283) rfl hr) ?_
        refine Runs.by (fun _ hr => XS.iload X45.here hx rfl (hb hby at_284) rfl  hr) ?_
        show Runs p e below _ (T45.setTop (mkF m 286 #[.val (.int p0), .val (.int p1), .val (.int p2), .val (.int p3), .val (.int p4), .val (.int fr), .val (.int tt), .val (.ref b2), .val (.int (p3.toInt8.toInt32)), .val (.int kk), .val (.int ((p4 >>> ((8 : Int32) &&& 31)).toInt8.toInt32)), .val (.int z0), .val (.int z1), .val (.int z2), .val (.int z3), .unset, .unset, .unset, .unset, .unset, .unset, .unset, .unset, .unset] [(.int z2), (.int (fr + (13 : Int32))), (.ref b2)]))
        obtain ⟨cl47, Ar47, q47, S47, N47', H47⟩ := id G45
        have ix47 := own_ix (j := (fr + (13 : Int32))) (z := (24 : Int32)) (n := f + 13) (own_ad hf h3 (n := 13) (by decide) (by decide)) (own_ad24 hf h3 (n := 13) (by decide) (by decide))
        have hin47 : ¬ ((fr + (13 : Int32)) < 0 ∨ cl47.slots.size ≤ ((fr + (13 : Int32))).toNatClampNeg) := inb_of S47 ix47.1
        obtain ⟨T47, h47, X47, e47, W47, st47⟩ := stB X45 hx hZ e45 Ar47 (j := (fr + (13 : Int32))) hin47 (g := (mkF m 286 #[.val (.int p0), .val (.int p1), .val (.int p2), .val (.int p3), .val (.int p4), .val (.int fr), .val (.int tt), .val (.ref b2), .val (.int (p3.toInt8.toInt32)), .val (.int kk), .val (.int ((p4 >>> ((8 : Int32) &&& 31)).toInt8.toInt32)), .val (.int z0), .val (.int z1), .val (.int z2), .val (.int z3), .unset, .unset, .unset, .unset, .unset, .unset, .unset, .unset, .unset] [(.int z2), (.int (fr + (13 : Int32))), (.ref b2)])) rfl rfl (hb hby at_286)
        have G47 : Arf Z h47 b2 k2 .byte (24 : Int32) (fun j_ => .int ((own_up (own_up (own_up (own_up (own_up wl10 (f + 10) (nar .byte nb10)) (f + kk.toNatClampNeg) (nar .byte (p3.toInt8.toInt32))) (f + 11) (nar .byte z0)) (f + 12) (nar .byte z1)) (f + 13) (nar .byte z2)) j_)) := (Arf.set Ar47 q47 S47 N47' H47 W47 ix47.2.1).cast (fun j_ _ => own_up_map Value.int _ _ _ j_)
        have K48 : Keep h0 h47 [] := K46.wr W47 (Or.inr sz_b2)
        have O_48 : Old Z n0 h47 := O_46.wr W47 g_b2
        have Sf34_b2__K48 := Safe.wr W47 Sf34_b2__K46 hC.1 Sf34_b2__K46
        have hk : _ ≤ h47.size := Nat.le_trans hk (Keep.of_wr W47).1
        have hC := hC.trans (CHr.wr W47 Sf34_b2__K46 hC.1)
        have N47 := Fr.snoc X47 N45 g_b2
        refine Runs.by st47 ?_
        refine Runs.by (fun _ hr => XS.aload X47.here hx rfl (hb hby at_287) rfl rfl hr) ?_
        refine Runs.by (fun _ hr => XS.iload X47.here hx rfl (hb hby at_289) rfl  hr) ?_
        show Runs p e below _ (T47.setTop (mkF m 291 #[.val (.int p0), .val (.int p1), .val (.int p2), .val (.int p3), .val (.int p4), .val (.int fr), .val (.int tt), .val (.ref b2), .val (.int (p3.toInt8.toInt32)), .val (.int kk), .val (.int ((p4 >>> ((8 : Int32) &&& 31)).toInt8.toInt32)), .val (.int z0), .val (.int z1), .val (.int z2), .val (.int z3), .unset, .unset, .unset, .unset, .unset, .unset, .unset, .unset, .unset] [(.int fr), (.ref b2)]))
        refine Runs.by (fun _ hr => XS.bipush X47.here hx rfl (hb hby at_291) hr) ?_
        refine Runs.by (fun _ hr => XS.iadd X47.here hx rfl (hb hby at_293) rfl hr) ?_
        refine Runs.by (fun _ hr => XS.iload X47.here hx rfl (hb hby at_294) rfl  hr) ?_
        show Runs p e below _ (T47.setTop (mkF m 296 #[.val (.int p0), .val (.int p1), .val (.int p2), .val (.int p3), .val (.int p4), .val (.int fr), .val (.int tt), .val (.ref b2), .val (.int (p3.toInt8.toInt32)), .val (.int kk), .val (.int ((p4 >>> ((8 : Int32) &&& 31)).toInt8.toInt32)), .val (.int z0), .val (.int z1), .val (.int z2), .val (.int z3), .unset, .unset, .unset, .unset, .unset, .unset, .unset, .unset, .unset] [(.int z3), (.int (fr + (14 : Int32))), (.ref b2)]))
        obtain ⟨cl49, Ar49, q49, S49, N49', H49⟩ := id G47
        have ix49 := own_ix (j := (fr + (14 : Int32))) (z := (24 : Int32)) (n := f + 14) (own_ad hf h3 (n := 14) (by decide) (by decide)) (own_ad24 hf h3 (n := 14) (by decide) (by decide))
        have hin49 : ¬ ((fr + (14 : Int32)) < 0 ∨ cl49.slots.size ≤ ((fr + (14 : Int32))).toNatClampNeg) := inb_of S49 ix49.1
        obtain ⟨T49, h49, X49, e49, W49, st49⟩ := stB X47 hx hZ e47 Ar49 (j := (fr + (14 : Int32))) hin49 (g := (mkF m 296 #[.val (.int p0), .val (.int p1), .val (.int p2), .val (.int p3), .val (.int p4), .val (.int fr), .val (.int tt), .val (.ref b2), .val (.int (p3.toInt8.toInt32)), .val (.int kk), .val (.int ((p4 >>> ((8 : Int32) &&& 31)).toInt8.toInt32)), .val (.int z0), .val (.int z1), .val (.int z2), .val (.int z3), .unset, .unset, .unset, .unset, .unset, .unset, .unset, .unset, .unset] [(.int z3), (.int (fr + (14 : Int32))), (.ref b2)])) rfl rfl (hb hby at_296)
        have G49 : Arf Z h49 b2 k2 .byte (24 : Int32) (fun j_ => .int ((own_up (own_up (own_up (own_up (own_up (own_up wl10 (f + 10) (nar .byte nb10)) (f + kk.toNatClampNeg) (nar .byte (p3.toInt8.toInt32))) (f + 11) (nar .byte z0)) (f + 12) (nar .byte z1)) (f + 13) (nar .byte z2)) (f + 14) (nar .byte z3)) j_)) := (Arf.set Ar49 q49 S49 N49' H49 W49 ix49.2.1).cast (fun j_ _ => own_up_map Value.int _ _ _ j_)
        have K50 : Keep h0 h49 [] := K48.wr W49 (Or.inr sz_b2)
        have O_50 : Old Z n0 h49 := O_48.wr W49 g_b2
        have Sf34_b2__K50 := Safe.wr W49 Sf34_b2__K48 hC.1 Sf34_b2__K48
        have hk : _ ≤ h49.size := Nat.le_trans hk (Keep.of_wr W49).1
        have hC := hC.trans (CHr.wr W49 Sf34_b2__K48 hC.1)
        have N49 := Fr.snoc X49 N47 g_b2
        refine Runs.by st49 ?_
        obtain ⟨wl, hwl⟩ : ∃ wl : Nat → Int32, wl = (own_up (own_up (own_up (own_up (own_up (own_up wl10 (f + 10) (nar .byte nb10)) (f + kk.toNatClampNeg) (nar .byte (p3.toInt8.toInt32))) (f + 11) (nar .byte z0)) (f + 12) (nar .byte z1)) (f + 13) (nar .byte z2)) (f + 14) (nar .byte z3)) := ⟨_, rfl⟩
        rw [← hwl] at G49
        obtain ⟨hwb, ez0, ez1, ez2, ez3, h15, hbk, en0, en1, en2, en3, en4, en5, en6, en7, en8, en9, en10⟩ := own_lineB hkl hwl10 hwl hz0 hz1 hz2 hz3
        have hNt : own_lc (p3.toInt8.toInt32) = own_cl kk → own_bg wl f fr (own_mn tt (fr + (998 : Int32))) = own_t0 wl f fr (own_mn tt (fr + (998 : Int32))) := own_Nt hf h3 (own_b8 _) hbk en0 en1 en2 en3 en4 en5 en6 en7 en8 en9 en10 hnb0 hnb1 hnb2 hnb3 hnb4 hnb5 hnb6 hnb7 hnb8 hnb9 hnb10
        have hNf : ¬ own_lc (p3.toInt8.toInt32) = own_cl kk → own_bg wl f fr (own_mn tt (fr + (998 : Int32))) = 0 := own_Nf hkl (own_b8 _) hbk
        refine Runs.by (fun _ hr => XS.aload X49.here hx rfl (hb hby at_297) rfl rfl hr) ?_
        refine Runs.by (fun _ hr => XS.iload X49.here hx rfl (hb hby at_299) rfl  hr) ?_
        show Runs p e below _ (T49.setTop (mkF m 301 #[.val (.int p0), .val (.int p1), .val (.int p2), .val (.int p3), .val (.int p4), .val (.int fr), .val (.int tt), .val (.ref b2), .val (.int (p3.toInt8.toInt32)), .val (.int kk), .val (.int ((p4 >>> ((8 : Int32) &&& 31)).toInt8.toInt32)), .val (.int z0), .val (.int z1), .val (.int z2), .val (.int z3), .unset, .unset, .unset, .unset, .unset, .unset, .unset, .unset, .unset] [(.int fr), (.ref b2)]))
        refine Runs.by (fun _ hr => XS.iload X49.here hx rfl (hb hby at_301) rfl  hr) ?_
        show Runs p e below _ (T49.setTop (mkF m 303 #[.val (.int p0), .val (.int p1), .val (.int p2), .val (.int p3), .val (.int p4), .val (.int fr), .val (.int tt), .val (.ref b2), .val (.int (p3.toInt8.toInt32)), .val (.int kk), .val (.int ((p4 >>> ((8 : Int32) &&& 31)).toInt8.toInt32)), .val (.int z0), .val (.int z1), .val (.int z2), .val (.int z3), .unset, .unset, .unset, .unset, .unset, .unset, .unset, .unset, .unset] [(.int tt), (.int fr), (.ref b2)]))
        obtain ⟨_, _, ⟨T51, L51, k51, n51⟩, -, X51, ⟨Lc51, hQ51, l51, y51, z51⟩, st51⟩ := Jvm.LawKit.callS X49 hx (y := (⟨"com/example/word_odds/wordodds/filter/VerdictField", "begins", "([BII)Z"⟩ : MethodName)) hown (mvT hZ (hw _ (List.mem_of_getElem? (i := 42) rfl))) (mvT hZ (hw _ (List.mem_of_getElem? (i := 43) rfl))) (mvT hZ (hw _ (List.mem_of_getElem? (i := 44) rfl))) (mvT hZ (hw _ (List.mem_of_getElem? (i := 45) rfl))) (by decide) (backOf (W := 0) (rm8 l Z a0 hw [] b2 fr tt k2 wl f lo ko h49 n0 (Nat.le_trans Z0 K50.1) G49 hf h3 hwb h15 (SL.ext O_50.2) (VL.ext O_50.2)) hZ (hw _ (List.mem_of_getElem? (i := 45) rfl)) (hw _ (List.mem_of_getElem? (i := 44) rfl)) (by decide) (by decide)) (g := (mkF m 303 #[.val (.int p0), .val (.int p1), .val (.int p2), .val (.int p3), .val (.int p4), .val (.int fr), .val (.int tt), .val (.ref b2), .val (.int (p3.toInt8.toInt32)), .val (.int kk), .val (.int ((p4 >>> ((8 : Int32) &&& 31)).toInt8.toInt32)), .val (.int z0), .val (.int z1), .val (.int z2), .val (.int z3), .unset, .unset, .unset, .unset, .unset, .unset, .unset, .unset, .unset] [(.int tt), (.int fr), (.ref b2)])) rfl (by rw [hml]; rfl) (argsL := [(.ref b2), (.int fr), (.int tt)]) (rest := []) (lenOf pd_8 rfl) rfl (by show 2 * 0 + _ ≤ _; exact Nat.le_of_eq rfl) (hb hby at_303) (fun _ _ => ⟨rfl, e49, (by decide : 5 + 0 ≤ _), (by decide : 120 + 0 ≤ _)⟩)
        dsimp only [Pt.U, Pt.locs, Pt.cells, Pt.slots] at X51 l51 y51 z51 st51 hQ51
        subst l51 y51 z51
        obtain ⟨rfl, Nq51, eq51⟩ := hQ51
        have N51 := Fr.app N49 Nq51
        refine Runs.by (fun t hr => st51 t hr) ?_
        generalize hbgE : own_bg wl f fr (own_mn tt (fr + (998 : Int32))) = bg at hNt hNf ⊢
        refine Runs.by (fun _ hr => XS.istore X51.here hx rfl (hb hby at_306) rfl (l' := #[.val (.int p0), .val (.int p1), .val (.int p2), .val (.int p3), .val (.int p4), .val (.int fr), .val (.int tt), .val (.ref b2), .val (.int (p3.toInt8.toInt32)), .val (.int kk), .val (.int ((p4 >>> ((8 : Int32) &&& 31)).toInt8.toInt32)), .val (.int z0), .val (.int z1), .val (.int z2), .val (.int z3), .val (.int bg), .unset, .unset, .unset, .unset, .unset, .unset, .unset, .unset]) rfl hr) ?_
        have JN : ∀ (nk : Int32) (TJ52 : State) (hJ52 : Heap) (lJ52 : List Loc) (vJ52 : Vm) (kJ52 : Nat) (XJ52 : Stand p l e room_1 (s.setVm vJ52) m #[(.int p0), (.int p1), (.int p2), (.int p3), (.int p4)] below meth c TJ52 lJ52 9 216) (eJ52 : TJ52.heap = hJ52) (NJ52 : Fr n0 lJ52) (KJ52 : Keep h0 hJ52 []) (OJ52 : Old Z n0 hJ52) (hCJ52 : CHr Z consts_1 s.vm s.heap vJ52 hJ52) (hSJ52 : s.Since vJ52 kJ52) (hkJ52 : kJ52 ≤ hJ52.size) (hZJ52 : Z.Warmed39 vJ52) (hoJ52 : vJ52.findClass "com/example/word_odds/wordodds/filter/VerdictFieldBeginsPinLaw" = some m.cls) (hN : bg = if nk = 0 then 0 else own_t0 wl f fr (own_mn tt (fr + (998 : Int32)))), Runs p e below (QEW Z consts_1 s (Q_rm0 Z p0 p1 p2 p3 p4 gC vG lo ko h0 n0) room_1.cells room_1.slots) (TJ52.setTop (mkF m 344 #[.val (.int p0), .val (.int p1), .val (.int p2), .val (.int p3), .val (.int p4), .val (.int fr), .val (.int tt), .val (.ref b2), .val (.int (p3.toInt8.toInt32)), .val (.int kk), .val (.int ((p4 >>> ((8 : Int32) &&& 31)).toInt8.toInt32)), .val (.int z0), .val (.int z1), .val (.int z2), .val (.int z3), .val (.int bg), .unset, .unset, .unset, .unset, .unset, .unset, .unset, .unset] [(.int nk)])) := by
          intro nk TJ52 hJ52 lJ52 vJ52 kJ52 XJ52 eJ52 NJ52 KJ52 OJ52 hC hS hk hZ hown hN
          refine Runs.by (fun _ hr => XS.istore XJ52.here hx rfl (hb hby at_344) rfl (l' := #[.val (.int p0), .val (.int p1), .val (.int p2), .val (.int p3), .val (.int p4), .val (.int fr), .val (.int tt), .val (.ref b2), .val (.int (p3.toInt8.toInt32)), .val (.int kk), .val (.int ((p4 >>> ((8 : Int32) &&& 31)).toInt8.toInt32)), .val (.int z0), .val (.int z1), .val (.int z2), .val (.int z3), .val (.int bg), .val (.int nk), .unset, .unset, .unset, .unset, .unset, .unset, .unset]) rfl hr) ?_
          show Runs p e below _ (TJ52.setTop (mkF m 346 #[.val (.int p0), .val (.int p1), .val (.int p2), .val (.int p3), .val (.int p4), .val (.int fr), .val (.int tt), .val (.ref b2), .val (.int (p3.toInt8.toInt32)), .val (.int kk), .val (.int ((p4 >>> ((8 : Int32) &&& 31)).toInt8.toInt32)), .val (.int z0), .val (.int z1), .val (.int z2), .val (.int z3), .val (.int bg), .val (.int nk), .unset, .unset, .unset, .unset, .unset, .unset, .unset] []))
          refine Runs.by (fun _ hr => XS.iload XJ52.here hx rfl (hb hby at_346) rfl  hr) ?_
          refine Runs.by (fun _ hr => XS.i2l XJ52.here hx rfl (hb hby at_348) rfl hr) ?_
          refine Runs.by (fun _ hr => XS.iload XJ52.here hx rfl (hb hby at_349) rfl  hr) ?_
          show Runs p e below _ (TJ52.setTop (mkF m 351 #[.val (.int p0), .val (.int p1), .val (.int p2), .val (.int p3), .val (.int p4), .val (.int fr), .val (.int tt), .val (.ref b2), .val (.int (p3.toInt8.toInt32)), .val (.int kk), .val (.int ((p4 >>> ((8 : Int32) &&& 31)).toInt8.toInt32)), .val (.int z0), .val (.int z1), .val (.int z2), .val (.int z3), .val (.int bg), .val (.int nk), .unset, .unset, .unset, .unset, .unset, .unset, .unset] [(.int fr), (.long (tt.toInt64))]))
          refine Runs.by (fun _ hr => XS.i2l XJ52.here hx rfl (hb hby at_351) rfl hr) ?_
          show Runs p e below _ (TJ52.setTop (mkF m 352 #[.val (.int p0), .val (.int p1), .val (.int p2), .val (.int p3), .val (.int p4), .val (.int fr), .val (.int tt), .val (.ref b2), .val (.int (p3.toInt8.toInt32)), .val (.int kk), .val (.int ((p4 >>> ((8 : Int32) &&& 31)).toInt8.toInt32)), .val (.int z0), .val (.int z1), .val (.int z2), .val (.int z3), .val (.int bg), .val (.int nk), .unset, .unset, .unset, .unset, .unset, .unset, .unset] [(.long (fr.toInt64)), (.long (tt.toInt64))]))
          refine Runs.by (fun _ hr => XS.lsub XJ52.here hx rfl (hb hby at_352) rfl hr) ?_
          show Runs p e below _ (TJ52.setTop (mkF m 353 #[.val (.int p0), .val (.int p1), .val (.int p2), .val (.int p3), .val (.int p4), .val (.int fr), .val (.int tt), .val (.ref b2), .val (.int (p3.toInt8.toInt32)), .val (.int kk), .val (.int ((p4 >>> ((8 : Int32) &&& 31)).toInt8.toInt32)), .val (.int z0), .val (.int z1), .val (.int z2), .val (.int z3), .val (.int bg), .val (.int nk), .unset, .unset, .unset, .unset, .unset, .unset, .unset] [(.long ((tt.toInt64) - (fr.toInt64)))]))
          refine Runs.by (fun _ hr => XJ52.ldc2J hx hown (mvT hZ (hw _ (List.mem_of_getElem? (i := 52) rfl))) (g := (mkF m 353 #[.val (.int p0), .val (.int p1), .val (.int p2), .val (.int p3), .val (.int p4), .val (.int fr), .val (.int tt), .val (.ref b2), .val (.int (p3.toInt8.toInt32)), .val (.int kk), .val (.int ((p4 >>> ((8 : Int32) &&& 31)).toInt8.toInt32)), .val (.int z0), .val (.int z1), .val (.int z2), .val (.int z3), .val (.int bg), .val (.int nk), .unset, .unset, .unset, .unset, .unset, .unset, .unset] [(.long ((tt.toInt64) - (fr.toInt64)))])) rfl (hb hby at_353) hr) ?_
          show Runs p e below _ (TJ52.setTop (mkF m 356 #[.val (.int p0), .val (.int p1), .val (.int p2), .val (.int p3), .val (.int p4), .val (.int fr), .val (.int tt), .val (.ref b2), .val (.int (p3.toInt8.toInt32)), .val (.int kk), .val (.int ((p4 >>> ((8 : Int32) &&& 31)).toInt8.toInt32)), .val (.int z0), .val (.int z1), .val (.int z2), .val (.int z3), .val (.int bg), .val (.int nk), .unset, .unset, .unset, .unset, .unset, .unset, .unset] [(.long (998 : Int64)), (.long ((tt.toInt64) - (fr.toInt64)))]))
          obtain ⟨_, _, ⟨T53, L53, k53, n53⟩, -, X53, ⟨Lc53, hQ53, l53, y53, z53⟩, st53⟩ := Jvm.LawKit.callS XJ52 hx (y := (⟨"java/lang/Math", "min", "(JJ)J"⟩ : MethodName)) hown (mvT hZ (hw _ (List.mem_of_getElem? (i := 53) rfl))) (mvT hZ (hw _ (List.mem_of_getElem? (i := 54) rfl))) (mvT hZ (hw _ (List.mem_of_getElem? (i := 48) rfl))) (mvT hZ (hw _ (List.mem_of_getElem? (i := 55) rfl))) (by decide) (backOf (W := 0) (rm10 l Z a0 hw [] ((tt.toInt64) - (fr.toInt64)) (998 : Int64)  hJ52 n0 (Nat.le_trans Z0 KJ52.1) ) hZ (hw _ (List.mem_of_getElem? (i := 55) rfl)) (hw _ (List.mem_of_getElem? (i := 48) rfl)) (by decide) (by decide)) (g := (mkF m 356 #[.val (.int p0), .val (.int p1), .val (.int p2), .val (.int p3), .val (.int p4), .val (.int fr), .val (.int tt), .val (.ref b2), .val (.int (p3.toInt8.toInt32)), .val (.int kk), .val (.int ((p4 >>> ((8 : Int32) &&& 31)).toInt8.toInt32)), .val (.int z0), .val (.int z1), .val (.int z2), .val (.int z3), .val (.int bg), .val (.int nk), .unset, .unset, .unset, .unset, .unset, .unset, .unset] [(.long (998 : Int64)), (.long ((tt.toInt64) - (fr.toInt64)))])) rfl (by rw [hml]; rfl) (argsL := [(.long ((tt.toInt64) - (fr.toInt64))), (.long (998 : Int64))]) (rest := []) (lenOf pd_9 rfl) rfl (by show 2 * 0 + _ ≤ _; exact Nat.le_of_eq rfl) (hb hby at_356) (fun _ _ => ⟨rfl, eJ52, (by decide : 9 + 0 ≤ _), (by decide : 216 + 0 ≤ _)⟩)
          dsimp only [Pt.U, Pt.locs, Pt.cells, Pt.slots] at X53 l53 y53 z53 st53 hQ53
          subst l53 y53 z53
          obtain ⟨rfl, Nq53, eq53⟩ := hQ53
          have N53 := Fr.app NJ52 Nq53
          refine Runs.by (fun t hr => st53 t hr) ?_
          have hA0 : lcmpW (11 : Int64) (own_mnJ ((tt.toInt64) - (fr.toInt64)) (998 : Int64)) < 0 ↔ fr + (11 : Int32) < (own_mn tt (fr + (998 : Int32))) := own_aj hf h3 (n := 11) (by decide) (by decide) (by decide)
          have hA1 : lcmpW (12 : Int64) (own_mnJ ((tt.toInt64) - (fr.toInt64)) (998 : Int64)) < 0 ↔ fr + (12 : Int32) < (own_mn tt (fr + (998 : Int32))) := own_aj hf h3 (n := 12) (by decide) (by decide) (by decide)
          have hA2 : lcmpW (13 : Int64) (own_mnJ ((tt.toInt64) - (fr.toInt64)) (998 : Int64)) < 0 ↔ fr + (13 : Int32) < (own_mn tt (fr + (998 : Int32))) := own_aj hf h3 (n := 13) (by decide) (by decide) (by decide)
          have hA3 : lcmpW (14 : Int64) (own_mnJ ((tt.toInt64) - (fr.toInt64)) (998 : Int64)) < 0 ↔ fr + (14 : Int32) < (own_mn tt (fr + (998 : Int32))) := own_aj hf h3 (n := 14) (by decide) (by decide) (by decide)
          generalize (own_mnJ ((tt.toInt64) - (fr.toInt64)) (998 : Int64)) = ee at hA0 hA1 hA2 hA3 ⊢
          refine Runs.by (fun _ hr => XS.lstore X53.here hx rfl (hb hby at_359) rfl (l' := #[.val (.int p0), .val (.int p1), .val (.int p2), .val (.int p3), .val (.int p4), .val (.int fr), .val (.int tt), .val (.ref b2), .val (.int (p3.toInt8.toInt32)), .val (.int kk), .val (.int ((p4 >>> ((8 : Int32) &&& 31)).toInt8.toInt32)), .val (.int z0), .val (.int z1), .val (.int z2), .val (.int z3), .val (.int bg), .val (.int nk), .val (.long ee), .second, .unset, .unset, .unset, .unset, .unset]) rfl hr) ?_
          have JX0 : ∀ (x0 : Int32) (TJ54 : State) (lJ54 : List Loc) (XJ54 : Stand p l e room_1 (s.setVm vJ52) m #[(.int p0), (.int p1), (.int p2), (.int p3), (.int p4)] below meth c TJ54 lJ54 9 216) (eJ54 : TJ54.heap = hJ52) (NJ54 : Fr n0 lJ54) (hx0 : x0 ≠ 0 ↔ lcmpW (11 : Int64) ee < 0 ∧ z0 = 58), Runs p e below (QEW Z consts_1 s (Q_rm0 Z p0 p1 p2 p3 p4 gC vG lo ko h0 n0) room_1.cells room_1.slots) (TJ54.setTop (mkF m 382 #[.val (.int p0), .val (.int p1), .val (.int p2), .val (.int p3), .val (.int p4), .val (.int fr), .val (.int tt), .val (.ref b2), .val (.int (p3.toInt8.toInt32)), .val (.int kk), .val (.int ((p4 >>> ((8 : Int32) &&& 31)).toInt8.toInt32)), .val (.int z0), .val (.int z1), .val (.int z2), .val (.int z3), .val (.int bg), .val (.int nk), .val (.long ee), .second, .unset, .unset, .unset, .unset, .unset] [(.int x0)])) := by
            intro x0 TJ54 lJ54 XJ54 eJ54 NJ54 hx0
            refine Runs.by (fun _ hr => XS.istore XJ54.here hx rfl (hb hby at_382) rfl (l' := #[.val (.int p0), .val (.int p1), .val (.int p2), .val (.int p3), .val (.int p4), .val (.int fr), .val (.int tt), .val (.ref b2), .val (.int (p3.toInt8.toInt32)), .val (.int kk), .val (.int ((p4 >>> ((8 : Int32) &&& 31)).toInt8.toInt32)), .val (.int z0), .val (.int z1), .val (.int z2), .val (.int z3), .val (.int bg), .val (.int nk), .val (.long ee), .second, .val (.int x0), .unset, .unset, .unset, .unset]) rfl hr) ?_
            have JX1 : ∀ (x1 : Int32) (TJ55 : State) (lJ55 : List Loc) (XJ55 : Stand p l e room_1 (s.setVm vJ52) m #[(.int p0), (.int p1), (.int p2), (.int p3), (.int p4)] below meth c TJ55 lJ55 9 216) (eJ55 : TJ55.heap = hJ52) (NJ55 : Fr n0 lJ55) (hx1 : x1 ≠ 0 ↔ lcmpW (12 : Int64) ee < 0 ∧ ¬ own_ws z0 = 0 ∧ z1 = 58), Runs p e below (QEW Z consts_1 s (Q_rm0 Z p0 p1 p2 p3 p4 gC vG lo ko h0 n0) room_1.cells room_1.slots) (TJ55.setTop (mkF m 413 #[.val (.int p0), .val (.int p1), .val (.int p2), .val (.int p3), .val (.int p4), .val (.int fr), .val (.int tt), .val (.ref b2), .val (.int (p3.toInt8.toInt32)), .val (.int kk), .val (.int ((p4 >>> ((8 : Int32) &&& 31)).toInt8.toInt32)), .val (.int z0), .val (.int z1), .val (.int z2), .val (.int z3), .val (.int bg), .val (.int nk), .val (.long ee), .second, .val (.int x0), .unset, .unset, .unset, .unset] [(.int x1)])) := by
              intro x1 TJ55 lJ55 XJ55 eJ55 NJ55 hx1
              show Runs p e below _ (TJ55.setTop (mkF m 413 #[.val (.int p0), .val (.int p1), .val (.int p2), .val (.int p3), .val (.int p4), .val (.int fr), .val (.int tt), .val (.ref b2), .val (.int (p3.toInt8.toInt32)), .val (.int kk), .val (.int ((p4 >>> ((8 : Int32) &&& 31)).toInt8.toInt32)), .val (.int z0), .val (.int z1), .val (.int z2), .val (.int z3), .val (.int bg), .val (.int nk), .val (.long ee), .second, .val (.int x0), .unset, .unset, .unset, .unset] [(.int x1)]))
              refine Runs.by (fun _ hr => XS.istore XJ55.here hx rfl (hb hby at_413) rfl (l' := #[.val (.int p0), .val (.int p1), .val (.int p2), .val (.int p3), .val (.int p4), .val (.int fr), .val (.int tt), .val (.ref b2), .val (.int (p3.toInt8.toInt32)), .val (.int kk), .val (.int ((p4 >>> ((8 : Int32) &&& 31)).toInt8.toInt32)), .val (.int z0), .val (.int z1), .val (.int z2), .val (.int z3), .val (.int bg), .val (.int nk), .val (.long ee), .second, .val (.int x0), .val (.int x1), .unset, .unset, .unset]) rfl hr) ?_
              have JX2 : ∀ (x2 : Int32) (TJ56 : State) (lJ56 : List Loc) (XJ56 : Stand p l e room_1 (s.setVm vJ52) m #[(.int p0), (.int p1), (.int p2), (.int p3), (.int p4)] below meth c TJ56 lJ56 9 216) (eJ56 : TJ56.heap = hJ52) (NJ56 : Fr n0 lJ56) (hx2 : x2 ≠ 0 ↔ lcmpW (13 : Int64) ee < 0 ∧ ¬ own_ws z0 = 0 ∧ ¬ own_ws z1 = 0 ∧ z2 = 58), Runs p e below (QEW Z consts_1 s (Q_rm0 Z p0 p1 p2 p3 p4 gC vG lo ko h0 n0) room_1.cells room_1.slots) (TJ56.setTop (mkF m 452 #[.val (.int p0), .val (.int p1), .val (.int p2), .val (.int p3), .val (.int p4), .val (.int fr), .val (.int tt), .val (.ref b2), .val (.int (p3.toInt8.toInt32)), .val (.int kk), .val (.int ((p4 >>> ((8 : Int32) &&& 31)).toInt8.toInt32)), .val (.int z0), .val (.int z1), .val (.int z2), .val (.int z3), .val (.int bg), .val (.int nk), .val (.long ee), .second, .val (.int x0), .val (.int x1), .unset, .unset, .unset] [(.int x2)])) := by
                intro x2 TJ56 lJ56 XJ56 eJ56 NJ56 hx2
                refine Runs.by (fun _ hr => XS.istore XJ56.here hx rfl (hb hby at_452) rfl (l' := #[.val (.int p0), .val (.int p1), .val (.int p2), .val (.int p3), .val (.int p4), .val (.int fr), .val (.int tt), .val (.ref b2), .val (.int (p3.toInt8.toInt32)), .val (.int kk), .val (.int ((p4 >>> ((8 : Int32) &&& 31)).toInt8.toInt32)), .val (.int z0), .val (.int z1), .val (.int z2), .val (.int z3), .val (.int bg), .val (.int nk), .val (.long ee), .second, .val (.int x0), .val (.int x1), .val (.int x2), .unset, .unset]) rfl hr) ?_
                have JX3 : ∀ (x3 : Int32) (TJ57 : State) (lJ57 : List Loc) (XJ57 : Stand p l e room_1 (s.setVm vJ52) m #[(.int p0), (.int p1), (.int p2), (.int p3), (.int p4)] below meth c TJ57 lJ57 9 216) (eJ57 : TJ57.heap = hJ52) (NJ57 : Fr n0 lJ57) (hx3 : x3 ≠ 0 ↔ lcmpW (14 : Int64) ee < 0 ∧ ¬ own_ws z0 = 0 ∧ ¬ own_ws z1 = 0 ∧ ¬ own_ws z2 = 0 ∧ z3 = 58), Runs p e below (QEW Z consts_1 s (Q_rm0 Z p0 p1 p2 p3 p4 gC vG lo ko h0 n0) room_1.cells room_1.slots) (TJ57.setTop (mkF m 499 #[.val (.int p0), .val (.int p1), .val (.int p2), .val (.int p3), .val (.int p4), .val (.int fr), .val (.int tt), .val (.ref b2), .val (.int (p3.toInt8.toInt32)), .val (.int kk), .val (.int ((p4 >>> ((8 : Int32) &&& 31)).toInt8.toInt32)), .val (.int z0), .val (.int z1), .val (.int z2), .val (.int z3), .val (.int bg), .val (.int nk), .val (.long ee), .second, .val (.int x0), .val (.int x1), .val (.int x2), .unset, .unset] [(.int x3)])) := by
                  intro x3 TJ57 lJ57 XJ57 eJ57 NJ57 hx3
                  refine Runs.by (fun _ hr => XS.istore XJ57.here hx rfl (hb hby at_499) rfl (l' := #[.val (.int p0), .val (.int p1), .val (.int p2), .val (.int p3), .val (.int p4), .val (.int fr), .val (.int tt), .val (.ref b2), .val (.int (p3.toInt8.toInt32)), .val (.int kk), .val (.int ((p4 >>> ((8 : Int32) &&& 31)).toInt8.toInt32)), .val (.int z0), .val (.int z1), .val (.int z2), .val (.int z3), .val (.int bg), .val (.int nk), .val (.long ee), .second, .val (.int x0), .val (.int x1), .val (.int x2), .val (.int x3), .unset]) rfl hr) ?_
                  have hT := own_tail (en := (own_mn tt (fr + (998 : Int32)))) hf h3 ez0 ez1 ez2 ez3 hA0 hA1 hA2 hA3 hx0 hx1 hx2 hx3
                  show Runs p e below _ (TJ57.setTop (mkF m 501 #[.val (.int p0), .val (.int p1), .val (.int p2), .val (.int p3), .val (.int p4), .val (.int fr), .val (.int tt), .val (.ref b2), .val (.int (p3.toInt8.toInt32)), .val (.int kk), .val (.int ((p4 >>> ((8 : Int32) &&& 31)).toInt8.toInt32)), .val (.int z0), .val (.int z1), .val (.int z2), .val (.int z3), .val (.int bg), .val (.int nk), .val (.long ee), .second, .val (.int x0), .val (.int x1), .val (.int x2), .val (.int x3), .unset] []))
                  refine Runs.by (fun _ hr => XS.iload XJ57.here hx rfl (hb hby at_501) rfl  hr) ?_
                  by_cases hc503 : nk = (0 : Int32)
                  · -- pc 503: nk = (0 : Int32)
                    refine Runs.by (fun _ hr => XS.ifYes XJ57.here hx rfl (pc0 := 503) (pc' := 530) rfl (hb hby at_503) rfl ((if0 _ _).trans (teq hc503).1) (by decide) (by decide) hr) ?_
                    refine Runs.by (fun _ hr => XS.iconst XJ57.here hx rfl (hb hby at_530) hr) ?_
                    show Runs p e below _ (TJ57.setTop (mkF m 531 #[.val (.int p0), .val (.int p1), .val (.int p2), .val (.int p3), .val (.int p4), .val (.int fr), .val (.int tt), .val (.ref b2), .val (.int (p3.toInt8.toInt32)), .val (.int kk), .val (.int ((p4 >>> ((8 : Int32) &&& 31)).toInt8.toInt32)), .val (.int z0), .val (.int z1), .val (.int z2), .val (.int z3), .val (.int bg), .val (.int nk), .val (.long ee), .second, .val (.int x0), .val (.int x1), .val (.int x2), .val (.int x3), .unset] [(.int (0 : Int32))]))
                    refine Runs.by (fun _ hr => XS.istore XJ57.here hx rfl (hb hby at_531) rfl (l' := #[.val (.int p0), .val (.int p1), .val (.int p2), .val (.int p3), .val (.int p4), .val (.int fr), .val (.int tt), .val (.ref b2), .val (.int (p3.toInt8.toInt32)), .val (.int kk), .val (.int ((p4 >>> ((8 : Int32) &&& 31)).toInt8.toInt32)), .val (.int z0), .val (.int z1), .val (.int z2), .val (.int z3), .val (.int bg), .val (.int nk), .val (.long ee), .second, .val (.int x0), .val (.int x1), .val (.int x2), .val (.int x3), .val (.int (0 : Int32))]) rfl hr) ?_
                    refine Runs.by (fun _ hr => XS.iload XJ57.here hx rfl (hb hby at_533) rfl  hr) ?_
                    refine Runs.by (fun _ hr => XS.iload XJ57.here hx rfl (hb hby at_535) rfl  hr) ?_
                    show Runs p e below _ (TJ57.setTop (mkF m 537 #[.val (.int p0), .val (.int p1), .val (.int p2), .val (.int p3), .val (.int p4), .val (.int fr), .val (.int tt), .val (.ref b2), .val (.int (p3.toInt8.toInt32)), .val (.int kk), .val (.int ((p4 >>> ((8 : Int32) &&& 31)).toInt8.toInt32)), .val (.int z0), .val (.int z1), .val (.int z2), .val (.int z3), .val (.int bg), .val (.int nk), .val (.long ee), .second, .val (.int x0), .val (.int x1), .val (.int x2), .val (.int x3), .val (.int (0 : Int32))] [(.int (0 : Int32)), (.int bg)]))
                    have hc537 : bg = (0 : Int32) := (hN.trans (if_pos hc503))
                    refine Runs.by (fun _ hr => XS.icmpNo XJ57.here hx rfl (hb hby at_537) rfl (teq hc537).2 hr) ?_
                    refine Runs.by (fun _ hr => XS.iconst XJ57.here hx rfl (hb hby at_540) hr) ?_
                    refine Runs.by (fun _ hr => XS.goto XJ57.here hx rfl (pc0 := 541) (pc' := 545) rfl (hb hby at_541) (by decide) (by decide) hr) ?_
                    show Runs p e below _ (TJ57.setTop (mkF m 545 #[.val (.int p0), .val (.int p1), .val (.int p2), .val (.int p3), .val (.int p4), .val (.int fr), .val (.int tt), .val (.ref b2), .val (.int (p3.toInt8.toInt32)), .val (.int kk), .val (.int ((p4 >>> ((8 : Int32) &&& 31)).toInt8.toInt32)), .val (.int z0), .val (.int z1), .val (.int z2), .val (.int z3), .val (.int bg), .val (.int nk), .val (.long ee), .second, .val (.int x0), .val (.int x1), .val (.int x2), .val (.int x3), .val (.int (0 : Int32))] [(.int (1 : Int32))]))
                    refine Runs.retW XJ57 hx hrt hlk eJ57 hS hk hZ hEL hC (Or.inl ⟨rfl, by simp, _, rfl⟩) (by rfl) (hb hby at_545) (by decide) (by decide) ?_
                    exact ⟨rfl, NJ57⟩
                  · -- pc 503: not nk = (0 : Int32)
                    refine Runs.by (fun _ hr => XS.ifNo XJ57.here hx rfl (hb hby at_503) rfl ((if0 _ _).trans (feq hc503).1) hr) ?_
                    refine Runs.by (fun _ hr => XS.iload XJ57.here hx rfl (hb hby at_506) rfl  hr) ?_
                    show Runs p e below _ (TJ57.setTop (mkF m 508 #[.val (.int p0), .val (.int p1), .val (.int p2), .val (.int p3), .val (.int p4), .val (.int fr), .val (.int tt), .val (.ref b2), .val (.int (p3.toInt8.toInt32)), .val (.int kk), .val (.int ((p4 >>> ((8 : Int32) &&& 31)).toInt8.toInt32)), .val (.int z0), .val (.int z1), .val (.int z2), .val (.int z3), .val (.int bg), .val (.int nk), .val (.long ee), .second, .val (.int x0), .val (.int x1), .val (.int x2), .val (.int x3), .unset] [(.int x0)]))
                    by_cases hc508 : x0 = (0 : Int32)
                    · -- pc 508: x0 = (0 : Int32)
                      refine Runs.by (fun _ hr => XS.ifNo XJ57.here hx rfl (hb hby at_508) rfl ((if0 _ _).trans (teq hc508).2) hr) ?_
                      refine Runs.by (fun _ hr => XS.iload XJ57.here hx rfl (hb hby at_511) rfl  hr) ?_
                      by_cases hc513 : x1 = (0 : Int32)
                      · -- pc 513: x1 = (0 : Int32)
                        refine Runs.by (fun _ hr => XS.ifNo XJ57.here hx rfl (hb hby at_513) rfl ((if0 _ _).trans (teq hc513).2) hr) ?_
                        show Runs p e below _ (TJ57.setTop (mkF m 516 #[.val (.int p0), .val (.int p1), .val (.int p2), .val (.int p3), .val (.int p4), .val (.int fr), .val (.int tt), .val (.ref b2), .val (.int (p3.toInt8.toInt32)), .val (.int kk), .val (.int ((p4 >>> ((8 : Int32) &&& 31)).toInt8.toInt32)), .val (.int z0), .val (.int z1), .val (.int z2), .val (.int z3), .val (.int bg), .val (.int nk), .val (.long ee), .second, .val (.int x0), .val (.int x1), .val (.int x2), .val (.int x3), .unset] []))
                        refine Runs.by (fun _ hr => XS.iload XJ57.here hx rfl (hb hby at_516) rfl  hr) ?_
                        by_cases hc518 : x2 = (0 : Int32)
                        · -- pc 518: x2 = (0 : Int32)
                          refine Runs.by (fun _ hr => XS.ifNo XJ57.here hx rfl (hb hby at_518) rfl ((if0 _ _).trans (teq hc518).2) hr) ?_
                          refine Runs.by (fun _ hr => XS.iload XJ57.here hx rfl (hb hby at_521) rfl  hr) ?_
                          show Runs p e below _ (TJ57.setTop (mkF m 523 #[.val (.int p0), .val (.int p1), .val (.int p2), .val (.int p3), .val (.int p4), .val (.int fr), .val (.int tt), .val (.ref b2), .val (.int (p3.toInt8.toInt32)), .val (.int kk), .val (.int ((p4 >>> ((8 : Int32) &&& 31)).toInt8.toInt32)), .val (.int z0), .val (.int z1), .val (.int z2), .val (.int z3), .val (.int bg), .val (.int nk), .val (.long ee), .second, .val (.int x0), .val (.int x1), .val (.int x2), .val (.int x3), .unset] [(.int x3)]))
                          by_cases hc523 : x3 = (0 : Int32)
                          · -- pc 523: x3 = (0 : Int32)
                            refine Runs.by (fun _ hr => XS.ifYes XJ57.here hx rfl (pc0 := 523) (pc' := 530) rfl (hb hby at_523) rfl ((if0 _ _).trans (teq hc523).1) (by decide) (by decide) hr) ?_
                            refine Runs.by (fun _ hr => XS.iconst XJ57.here hx rfl (hb hby at_530) hr) ?_
                            refine Runs.by (fun _ hr => XS.istore XJ57.here hx rfl (hb hby at_531) rfl (l' := #[.val (.int p0), .val (.int p1), .val (.int p2), .val (.int p3), .val (.int p4), .val (.int fr), .val (.int tt), .val (.ref b2), .val (.int (p3.toInt8.toInt32)), .val (.int kk), .val (.int ((p4 >>> ((8 : Int32) &&& 31)).toInt8.toInt32)), .val (.int z0), .val (.int z1), .val (.int z2), .val (.int z3), .val (.int bg), .val (.int nk), .val (.long ee), .second, .val (.int x0), .val (.int x1), .val (.int x2), .val (.int x3), .val (.int (0 : Int32))]) rfl hr) ?_
                            show Runs p e below _ (TJ57.setTop (mkF m 533 #[.val (.int p0), .val (.int p1), .val (.int p2), .val (.int p3), .val (.int p4), .val (.int fr), .val (.int tt), .val (.ref b2), .val (.int (p3.toInt8.toInt32)), .val (.int kk), .val (.int ((p4 >>> ((8 : Int32) &&& 31)).toInt8.toInt32)), .val (.int z0), .val (.int z1), .val (.int z2), .val (.int z3), .val (.int bg), .val (.int nk), .val (.long ee), .second, .val (.int x0), .val (.int x1), .val (.int x2), .val (.int x3), .val (.int (0 : Int32))] []))
                            refine Runs.by (fun _ hr => XS.iload XJ57.here hx rfl (hb hby at_533) rfl  hr) ?_
                            refine Runs.by (fun _ hr => XS.iload XJ57.here hx rfl (hb hby at_535) rfl  hr) ?_
                            have hc537 : bg = (0 : Int32) := (hN.trans ((if_neg hc503).trans (hT.trans (if_neg (fun q => q.elim (fun a => a hc508) (fun q => q.elim (fun a => a hc513) (fun q => q.elim (fun a => a hc518) (fun a => a hc523))))))))
                            refine Runs.by (fun _ hr => XS.icmpNo XJ57.here hx rfl (hb hby at_537) rfl (teq hc537).2 hr) ?_
                            show Runs p e below _ (TJ57.setTop (mkF m 540 #[.val (.int p0), .val (.int p1), .val (.int p2), .val (.int p3), .val (.int p4), .val (.int fr), .val (.int tt), .val (.ref b2), .val (.int (p3.toInt8.toInt32)), .val (.int kk), .val (.int ((p4 >>> ((8 : Int32) &&& 31)).toInt8.toInt32)), .val (.int z0), .val (.int z1), .val (.int z2), .val (.int z3), .val (.int bg), .val (.int nk), .val (.long ee), .second, .val (.int x0), .val (.int x1), .val (.int x2), .val (.int x3), .val (.int (0 : Int32))] []))
                            refine Runs.by (fun _ hr => XS.iconst XJ57.here hx rfl (hb hby at_540) hr) ?_
                            refine Runs.by (fun _ hr => XS.goto XJ57.here hx rfl (pc0 := 541) (pc' := 545) rfl (hb hby at_541) (by decide) (by decide) hr) ?_
                            show Runs p e below _ (TJ57.setTop (mkF m 545 #[.val (.int p0), .val (.int p1), .val (.int p2), .val (.int p3), .val (.int p4), .val (.int fr), .val (.int tt), .val (.ref b2), .val (.int (p3.toInt8.toInt32)), .val (.int kk), .val (.int ((p4 >>> ((8 : Int32) &&& 31)).toInt8.toInt32)), .val (.int z0), .val (.int z1), .val (.int z2), .val (.int z3), .val (.int bg), .val (.int nk), .val (.long ee), .second, .val (.int x0), .val (.int x1), .val (.int x2), .val (.int x3), .val (.int (0 : Int32))] [(.int (1 : Int32))]))
                            refine Runs.retW XJ57 hx hrt hlk eJ57 hS hk hZ hEL hC (Or.inl ⟨rfl, by simp, _, rfl⟩) (by rfl) (hb hby at_545) (by decide) (by decide) ?_
                            exact ⟨rfl, NJ57⟩
                          · -- pc 523: not x3 = (0 : Int32)
                            refine Runs.by (fun _ hr => XS.ifNo XJ57.here hx rfl (hb hby at_523) rfl ((if0 _ _).trans (feq hc523).1) hr) ?_
                            refine Runs.by (fun _ hr => XS.iconst XJ57.here hx rfl (hb hby at_526) hr) ?_
                            refine Runs.by (fun _ hr => XS.goto XJ57.here hx rfl (pc0 := 527) (pc' := 531) rfl (hb hby at_527) (by decide) (by decide) hr) ?_
                            show Runs p e below _ (TJ57.setTop (mkF m 531 #[.val (.int p0), .val (.int p1), .val (.int p2), .val (.int p3), .val (.int p4), .val (.int fr), .val (.int tt), .val (.ref b2), .val (.int (p3.toInt8.toInt32)), .val (.int kk), .val (.int ((p4 >>> ((8 : Int32) &&& 31)).toInt8.toInt32)), .val (.int z0), .val (.int z1), .val (.int z2), .val (.int z3), .val (.int bg), .val (.int nk), .val (.long ee), .second, .val (.int x0), .val (.int x1), .val (.int x2), .val (.int x3), .unset] [(.int (1 : Int32))]))
                            refine Runs.by (fun _ hr => XS.istore XJ57.here hx rfl (hb hby at_531) rfl (l' := #[.val (.int p0), .val (.int p1), .val (.int p2), .val (.int p3), .val (.int p4), .val (.int fr), .val (.int tt), .val (.ref b2), .val (.int (p3.toInt8.toInt32)), .val (.int kk), .val (.int ((p4 >>> ((8 : Int32) &&& 31)).toInt8.toInt32)), .val (.int z0), .val (.int z1), .val (.int z2), .val (.int z3), .val (.int bg), .val (.int nk), .val (.long ee), .second, .val (.int x0), .val (.int x1), .val (.int x2), .val (.int x3), .val (.int (1 : Int32))]) rfl hr) ?_
                            refine Runs.by (fun _ hr => XS.iload XJ57.here hx rfl (hb hby at_533) rfl  hr) ?_
                            refine Runs.by (fun _ hr => XS.iload XJ57.here hx rfl (hb hby at_535) rfl  hr) ?_
                            show Runs p e below _ (TJ57.setTop (mkF m 537 #[.val (.int p0), .val (.int p1), .val (.int p2), .val (.int p3), .val (.int p4), .val (.int fr), .val (.int tt), .val (.ref b2), .val (.int (p3.toInt8.toInt32)), .val (.int kk), .val (.int ((p4 >>> ((8 : Int32) &&& 31)).toInt8.toInt32)), .val (.int z0), .val (.int z1), .val (.int z2), .val (.int z3), .val (.int bg), .val (.int nk), .val (.long ee), .second, .val (.int x0), .val (.int x1), .val (.int x2), .val (.int x3), .val (.int (1 : Int32))] [(.int (1 : Int32)), (.int bg)]))
                            have hc537 : bg = (1 : Int32) := (hN.trans ((if_neg hc503).trans (hT.trans (if_pos (Or.inr (Or.inr (Or.inr (hc523))))))))
                            refine Runs.by (fun _ hr => XS.icmpNo XJ57.here hx rfl (hb hby at_537) rfl (teq hc537).2 hr) ?_
                            refine Runs.by (fun _ hr => XS.iconst XJ57.here hx rfl (hb hby at_540) hr) ?_
                            refine Runs.by (fun _ hr => XS.goto XJ57.here hx rfl (pc0 := 541) (pc' := 545) rfl (hb hby at_541) (by decide) (by decide) hr) ?_
                            show Runs p e below _ (TJ57.setTop (mkF m 545 #[.val (.int p0), .val (.int p1), .val (.int p2), .val (.int p3), .val (.int p4), .val (.int fr), .val (.int tt), .val (.ref b2), .val (.int (p3.toInt8.toInt32)), .val (.int kk), .val (.int ((p4 >>> ((8 : Int32) &&& 31)).toInt8.toInt32)), .val (.int z0), .val (.int z1), .val (.int z2), .val (.int z3), .val (.int bg), .val (.int nk), .val (.long ee), .second, .val (.int x0), .val (.int x1), .val (.int x2), .val (.int x3), .val (.int (1 : Int32))] [(.int (1 : Int32))]))
                            refine Runs.retW XJ57 hx hrt hlk eJ57 hS hk hZ hEL hC (Or.inl ⟨rfl, by simp, _, rfl⟩) (by rfl) (hb hby at_545) (by decide) (by decide) ?_
                            exact ⟨rfl, NJ57⟩
                        · -- pc 518: not x2 = (0 : Int32)
                          refine Runs.by (fun _ hr => XS.ifYes XJ57.here hx rfl (pc0 := 518) (pc' := 526) rfl (hb hby at_518) rfl ((if0 _ _).trans (feq hc518).2) (by decide) (by decide) hr) ?_
                          refine Runs.by (fun _ hr => XS.iconst XJ57.here hx rfl (hb hby at_526) hr) ?_
                          show Runs p e below _ (TJ57.setTop (mkF m 527 #[.val (.int p0), .val (.int p1), .val (.int p2), .val (.int p3), .val (.int p4), .val (.int fr), .val (.int tt), .val (.ref b2), .val (.int (p3.toInt8.toInt32)), .val (.int kk), .val (.int ((p4 >>> ((8 : Int32) &&& 31)).toInt8.toInt32)), .val (.int z0), .val (.int z1), .val (.int z2), .val (.int z3), .val (.int bg), .val (.int nk), .val (.long ee), .second, .val (.int x0), .val (.int x1), .val (.int x2), .val (.int x3), .unset] [(.int (1 : Int32))]))
                          refine Runs.by (fun _ hr => XS.goto XJ57.here hx rfl (pc0 := 527) (pc' := 531) rfl (hb hby at_527) (by decide) (by decide) hr) ?_
                          refine Runs.by (fun _ hr => XS.istore XJ57.here hx rfl (hb hby at_531) rfl (l' := #[.val (.int p0), .val (.int p1), .val (.int p2), .val (.int p3), .val (.int p4), .val (.int fr), .val (.int tt), .val (.ref b2), .val (.int (p3.toInt8.toInt32)), .val (.int kk), .val (.int ((p4 >>> ((8 : Int32) &&& 31)).toInt8.toInt32)), .val (.int z0), .val (.int z1), .val (.int z2), .val (.int z3), .val (.int bg), .val (.int nk), .val (.long ee), .second, .val (.int x0), .val (.int x1), .val (.int x2), .val (.int x3), .val (.int (1 : Int32))]) rfl hr) ?_
                          refine Runs.by (fun _ hr => XS.iload XJ57.here hx rfl (hb hby at_533) rfl  hr) ?_
                          show Runs p e below _ (TJ57.setTop (mkF m 535 #[.val (.int p0), .val (.int p1), .val (.int p2), .val (.int p3), .val (.int p4), .val (.int fr), .val (.int tt), .val (.ref b2), .val (.int (p3.toInt8.toInt32)), .val (.int kk), .val (.int ((p4 >>> ((8 : Int32) &&& 31)).toInt8.toInt32)), .val (.int z0), .val (.int z1), .val (.int z2), .val (.int z3), .val (.int bg), .val (.int nk), .val (.long ee), .second, .val (.int x0), .val (.int x1), .val (.int x2), .val (.int x3), .val (.int (1 : Int32))] [(.int bg)]))
                          refine Runs.by (fun _ hr => XS.iload XJ57.here hx rfl (hb hby at_535) rfl  hr) ?_
                          have hc537 : bg = (1 : Int32) := (hN.trans ((if_neg hc503).trans (hT.trans (if_pos (Or.inr (Or.inr (Or.inl hc518)))))))
                          refine Runs.by (fun _ hr => XS.icmpNo XJ57.here hx rfl (hb hby at_537) rfl (teq hc537).2 hr) ?_
                          refine Runs.by (fun _ hr => XS.iconst XJ57.here hx rfl (hb hby at_540) hr) ?_
                          show Runs p e below _ (TJ57.setTop (mkF m 541 #[.val (.int p0), .val (.int p1), .val (.int p2), .val (.int p3), .val (.int p4), .val (.int fr), .val (.int tt), .val (.ref b2), .val (.int (p3.toInt8.toInt32)), .val (.int kk), .val (.int ((p4 >>> ((8 : Int32) &&& 31)).toInt8.toInt32)), .val (.int z0), .val (.int z1), .val (.int z2), .val (.int z3), .val (.int bg), .val (.int nk), .val (.long ee), .second, .val (.int x0), .val (.int x1), .val (.int x2), .val (.int x3), .val (.int (1 : Int32))] [(.int (1 : Int32))]))
                          refine Runs.by (fun _ hr => XS.goto XJ57.here hx rfl (pc0 := 541) (pc' := 545) rfl (hb hby at_541) (by decide) (by decide) hr) ?_
                          show Runs p e below _ (TJ57.setTop (mkF m 545 #[.val (.int p0), .val (.int p1), .val (.int p2), .val (.int p3), .val (.int p4), .val (.int fr), .val (.int tt), .val (.ref b2), .val (.int (p3.toInt8.toInt32)), .val (.int kk), .val (.int ((p4 >>> ((8 : Int32) &&& 31)).toInt8.toInt32)), .val (.int z0), .val (.int z1), .val (.int z2), .val (.int z3), .val (.int bg), .val (.int nk), .val (.long ee), .second, .val (.int x0), .val (.int x1), .val (.int x2), .val (.int x3), .val (.int (1 : Int32))] [(.int (1 : Int32))]))
                          refine Runs.retW XJ57 hx hrt hlk eJ57 hS hk hZ hEL hC (Or.inl ⟨rfl, by simp, _, rfl⟩) (by rfl) (hb hby at_545) (by decide) (by decide) ?_
                          exact ⟨rfl, NJ57⟩
                      · -- pc 513: not x1 = (0 : Int32)
                        refine Runs.by (fun _ hr => XS.ifYes XJ57.here hx rfl (pc0 := 513) (pc' := 526) rfl (hb hby at_513) rfl ((if0 _ _).trans (feq hc513).2) (by decide) (by decide) hr) ?_
                        show Runs p e below _ (TJ57.setTop (mkF m 526 #[.val (.int p0), .val (.int p1), .val (.int p2), .val (.int p3), .val (.int p4), .val (.int fr), .val (.int tt), .val (.ref b2), .val (.int (p3.toInt8.toInt32)), .val (.int kk), .val (.int ((p4 >>> ((8 : Int32) &&& 31)).toInt8.toInt32)), .val (.int z0), .val (.int z1), .val (.int z2), .val (.int z3), .val (.int bg), .val (.int nk), .val (.long ee), .second, .val (.int x0), .val (.int x1), .val (.int x2), .val (.int x3), .unset] []))
                        refine Runs.by (fun _ hr => XS.iconst XJ57.here hx rfl (hb hby at_526) hr) ?_
                        refine Runs.by (fun _ hr => XS.goto XJ57.here hx rfl (pc0 := 527) (pc' := 531) rfl (hb hby at_527) (by decide) (by decide) hr) ?_
                        refine Runs.by (fun _ hr => XS.istore XJ57.here hx rfl (hb hby at_531) rfl (l' := #[.val (.int p0), .val (.int p1), .val (.int p2), .val (.int p3), .val (.int p4), .val (.int fr), .val (.int tt), .val (.ref b2), .val (.int (p3.toInt8.toInt32)), .val (.int kk), .val (.int ((p4 >>> ((8 : Int32) &&& 31)).toInt8.toInt32)), .val (.int z0), .val (.int z1), .val (.int z2), .val (.int z3), .val (.int bg), .val (.int nk), .val (.long ee), .second, .val (.int x0), .val (.int x1), .val (.int x2), .val (.int x3), .val (.int (1 : Int32))]) rfl hr) ?_
                        show Runs p e below _ (TJ57.setTop (mkF m 533 #[.val (.int p0), .val (.int p1), .val (.int p2), .val (.int p3), .val (.int p4), .val (.int fr), .val (.int tt), .val (.ref b2), .val (.int (p3.toInt8.toInt32)), .val (.int kk), .val (.int ((p4 >>> ((8 : Int32) &&& 31)).toInt8.toInt32)), .val (.int z0), .val (.int z1), .val (.int z2), .val (.int z3), .val (.int bg), .val (.int nk), .val (.long ee), .second, .val (.int x0), .val (.int x1), .val (.int x2), .val (.int x3), .val (.int (1 : Int32))] []))
                        refine Runs.by (fun _ hr => XS.iload XJ57.here hx rfl (hb hby at_533) rfl  hr) ?_
                        refine Runs.by (fun _ hr => XS.iload XJ57.here hx rfl (hb hby at_535) rfl  hr) ?_
                        have hc537 : bg = (1 : Int32) := (hN.trans ((if_neg hc503).trans (hT.trans (if_pos (Or.inr (Or.inl hc513))))))
                        refine Runs.by (fun _ hr => XS.icmpNo XJ57.here hx rfl (hb hby at_537) rfl (teq hc537).2 hr) ?_
                        show Runs p e below _ (TJ57.setTop (mkF m 540 #[.val (.int p0), .val (.int p1), .val (.int p2), .val (.int p3), .val (.int p4), .val (.int fr), .val (.int tt), .val (.ref b2), .val (.int (p3.toInt8.toInt32)), .val (.int kk), .val (.int ((p4 >>> ((8 : Int32) &&& 31)).toInt8.toInt32)), .val (.int z0), .val (.int z1), .val (.int z2), .val (.int z3), .val (.int bg), .val (.int nk), .val (.long ee), .second, .val (.int x0), .val (.int x1), .val (.int x2), .val (.int x3), .val (.int (1 : Int32))] []))
                        refine Runs.by (fun _ hr => XS.iconst XJ57.here hx rfl (hb hby at_540) hr) ?_
                        refine Runs.by (fun _ hr => XS.goto XJ57.here hx rfl (pc0 := 541) (pc' := 545) rfl (hb hby at_541) (by decide) (by decide) hr) ?_
                        show Runs p e below _ (TJ57.setTop (mkF m 545 #[.val (.int p0), .val (.int p1), .val (.int p2), .val (.int p3), .val (.int p4), .val (.int fr), .val (.int tt), .val (.ref b2), .val (.int (p3.toInt8.toInt32)), .val (.int kk), .val (.int ((p4 >>> ((8 : Int32) &&& 31)).toInt8.toInt32)), .val (.int z0), .val (.int z1), .val (.int z2), .val (.int z3), .val (.int bg), .val (.int nk), .val (.long ee), .second, .val (.int x0), .val (.int x1), .val (.int x2), .val (.int x3), .val (.int (1 : Int32))] [(.int (1 : Int32))]))
                        refine Runs.retW XJ57 hx hrt hlk eJ57 hS hk hZ hEL hC (Or.inl ⟨rfl, by simp, _, rfl⟩) (by rfl) (hb hby at_545) (by decide) (by decide) ?_
                        exact ⟨rfl, NJ57⟩
                    · -- pc 508: not x0 = (0 : Int32)
                      refine Runs.by (fun _ hr => XS.ifYes XJ57.here hx rfl (pc0 := 508) (pc' := 526) rfl (hb hby at_508) rfl ((if0 _ _).trans (feq hc508).2) (by decide) (by decide) hr) ?_
                      refine Runs.by (fun _ hr => XS.iconst XJ57.here hx rfl (hb hby at_526) hr) ?_
                      refine Runs.by (fun _ hr => XS.goto XJ57.here hx rfl (pc0 := 527) (pc' := 531) rfl (hb hby at_527) (by decide) (by decide) hr) ?_
                      show Runs p e below _ (TJ57.setTop (mkF m 531 #[.val (.int p0), .val (.int p1), .val (.int p2), .val (.int p3), .val (.int p4), .val (.int fr), .val (.int tt), .val (.ref b2), .val (.int (p3.toInt8.toInt32)), .val (.int kk), .val (.int ((p4 >>> ((8 : Int32) &&& 31)).toInt8.toInt32)), .val (.int z0), .val (.int z1), .val (.int z2), .val (.int z3), .val (.int bg), .val (.int nk), .val (.long ee), .second, .val (.int x0), .val (.int x1), .val (.int x2), .val (.int x3), .unset] [(.int (1 : Int32))]))
                      refine Runs.by (fun _ hr => XS.istore XJ57.here hx rfl (hb hby at_531) rfl (l' := #[.val (.int p0), .val (.int p1), .val (.int p2), .val (.int p3), .val (.int p4), .val (.int fr), .val (.int tt), .val (.ref b2), .val (.int (p3.toInt8.toInt32)), .val (.int kk), .val (.int ((p4 >>> ((8 : Int32) &&& 31)).toInt8.toInt32)), .val (.int z0), .val (.int z1), .val (.int z2), .val (.int z3), .val (.int bg), .val (.int nk), .val (.long ee), .second, .val (.int x0), .val (.int x1), .val (.int x2), .val (.int x3), .val (.int (1 : Int32))]) rfl hr) ?_
                      refine Runs.by (fun _ hr => XS.iload XJ57.here hx rfl (hb hby at_533) rfl  hr) ?_
                      refine Runs.by (fun _ hr => XS.iload XJ57.here hx rfl (hb hby at_535) rfl  hr) ?_
                      show Runs p e below _ (TJ57.setTop (mkF m 537 #[.val (.int p0), .val (.int p1), .val (.int p2), .val (.int p3), .val (.int p4), .val (.int fr), .val (.int tt), .val (.ref b2), .val (.int (p3.toInt8.toInt32)), .val (.int kk), .val (.int ((p4 >>> ((8 : Int32) &&& 31)).toInt8.toInt32)), .val (.int z0), .val (.int z1), .val (.int z2), .val (.int z3), .val (.int bg), .val (.int nk), .val (.long ee), .second, .val (.int x0), .val (.int x1), .val (.int x2), .val (.int x3), .val (.int (1 : Int32))] [(.int (1 : Int32)), (.int bg)]))
                      have hc537 : bg = (1 : Int32) := (hN.trans ((if_neg hc503).trans (hT.trans (if_pos (Or.inl hc508)))))
                      refine Runs.by (fun _ hr => XS.icmpNo XJ57.here hx rfl (hb hby at_537) rfl (teq hc537).2 hr) ?_
                      refine Runs.by (fun _ hr => XS.iconst XJ57.here hx rfl (hb hby at_540) hr) ?_
                      refine Runs.by (fun _ hr => XS.goto XJ57.here hx rfl (pc0 := 541) (pc' := 545) rfl (hb hby at_541) (by decide) (by decide) hr) ?_
                      show Runs p e below _ (TJ57.setTop (mkF m 545 #[.val (.int p0), .val (.int p1), .val (.int p2), .val (.int p3), .val (.int p4), .val (.int fr), .val (.int tt), .val (.ref b2), .val (.int (p3.toInt8.toInt32)), .val (.int kk), .val (.int ((p4 >>> ((8 : Int32) &&& 31)).toInt8.toInt32)), .val (.int z0), .val (.int z1), .val (.int z2), .val (.int z3), .val (.int bg), .val (.int nk), .val (.long ee), .second, .val (.int x0), .val (.int x1), .val (.int x2), .val (.int x3), .val (.int (1 : Int32))] [(.int (1 : Int32))]))
                      refine Runs.retW XJ57 hx hrt hlk eJ57 hS hk hZ hEL hC (Or.inl ⟨rfl, by simp, _, rfl⟩) (by rfl) (hb hby at_545) (by decide) (by decide) ?_
                      exact ⟨rfl, NJ57⟩
                show Runs p e below _ (TJ56.setTop (mkF m 454 #[.val (.int p0), .val (.int p1), .val (.int p2), .val (.int p3), .val (.int p4), .val (.int fr), .val (.int tt), .val (.ref b2), .val (.int (p3.toInt8.toInt32)), .val (.int kk), .val (.int ((p4 >>> ((8 : Int32) &&& 31)).toInt8.toInt32)), .val (.int z0), .val (.int z1), .val (.int z2), .val (.int z3), .val (.int bg), .val (.int nk), .val (.long ee), .second, .val (.int x0), .val (.int x1), .val (.int x2), .unset, .unset] []))
                refine Runs.by (fun _ hr => XJ56.ldc2J hx hown (mvT hZ (hw _ (List.mem_of_getElem? (i := 59) rfl))) (g := (mkF m 454 #[.val (.int p0), .val (.int p1), .val (.int p2), .val (.int p3), .val (.int p4), .val (.int fr), .val (.int tt), .val (.ref b2), .val (.int (p3.toInt8.toInt32)), .val (.int kk), .val (.int ((p4 >>> ((8 : Int32) &&& 31)).toInt8.toInt32)), .val (.int z0), .val (.int z1), .val (.int z2), .val (.int z3), .val (.int bg), .val (.int nk), .val (.long ee), .second, .val (.int x0), .val (.int x1), .val (.int x2), .unset, .unset] [])) rfl (hb hby at_454) hr) ?_
                refine Runs.by (fun _ hr => XS.lload XJ56.here hx rfl (hb hby at_457) rfl  hr) ?_
                refine Runs.by (fun _ hr => XS.lcmp XJ56.here hx rfl (hb hby at_459) rfl hr) ?_
                show Runs p e below _ (TJ56.setTop (mkF m 460 #[.val (.int p0), .val (.int p1), .val (.int p2), .val (.int p3), .val (.int p4), .val (.int fr), .val (.int tt), .val (.ref b2), .val (.int (p3.toInt8.toInt32)), .val (.int kk), .val (.int ((p4 >>> ((8 : Int32) &&& 31)).toInt8.toInt32)), .val (.int z0), .val (.int z1), .val (.int z2), .val (.int z3), .val (.int bg), .val (.int nk), .val (.long ee), .second, .val (.int x0), .val (.int x1), .val (.int x2), .unset, .unset] [(.int (lcmpW (14 : Int64) ee))]))
                by_cases hc460 : (lcmpW (14 : Int64) ee) < (0 : Int32)
                · -- pc 460: (lcmpW (14 : Int64) ee) < (0 : Int32)
                  refine Runs.by (fun _ hr => XS.ifNo XJ56.here hx rfl (hb hby at_460) rfl ((if0 _ _).trans (tlt hc460).2.1) hr) ?_
                  refine Runs.by (fun _ hr => XS.iload XJ56.here hx rfl (hb hby at_463) rfl  hr) ?_
                  show Runs p e below _ (TJ56.setTop (mkF m 465 #[.val (.int p0), .val (.int p1), .val (.int p2), .val (.int p3), .val (.int p4), .val (.int fr), .val (.int tt), .val (.ref b2), .val (.int (p3.toInt8.toInt32)), .val (.int kk), .val (.int ((p4 >>> ((8 : Int32) &&& 31)).toInt8.toInt32)), .val (.int z0), .val (.int z1), .val (.int z2), .val (.int z3), .val (.int bg), .val (.int nk), .val (.long ee), .second, .val (.int x0), .val (.int x1), .val (.int x2), .unset, .unset] [(.int z0)]))
                  obtain ⟨_, _, ⟨T58, L58, k58, n58⟩, -, X58, ⟨Lc58, hQ58, l58, y58, z58⟩, st58⟩ := Jvm.LawKit.callS XJ56 hx (y := (⟨"com/example/word_odds/wordodds/filter/VerdictFieldBeginsPinLaw", "ws", "(B)Z"⟩ : MethodName)) hown (mvT hZ (hw _ (List.mem_of_getElem? (i := 63) rfl))) (mvT hZ (hw _ (List.mem_of_getElem? (i := 64) rfl))) (mvT hZ (hw _ (List.mem_of_getElem? (i := 4) rfl))) (mvT hZ (hw _ (List.mem_of_getElem? (i := 65) rfl))) (by decide) (backOf (W := 0) (rm12 l Z a0 hw [] z0  hJ52 n0 (Nat.le_trans Z0 KJ52.1) ) hZ (hw _ (List.mem_of_getElem? (i := 65) rfl)) (hw _ (List.mem_of_getElem? (i := 4) rfl)) (by decide) (by decide)) (g := (mkF m 465 #[.val (.int p0), .val (.int p1), .val (.int p2), .val (.int p3), .val (.int p4), .val (.int fr), .val (.int tt), .val (.ref b2), .val (.int (p3.toInt8.toInt32)), .val (.int kk), .val (.int ((p4 >>> ((8 : Int32) &&& 31)).toInt8.toInt32)), .val (.int z0), .val (.int z1), .val (.int z2), .val (.int z3), .val (.int bg), .val (.int nk), .val (.long ee), .second, .val (.int x0), .val (.int x1), .val (.int x2), .unset, .unset] [(.int z0)])) rfl (by rw [hml]; rfl) (argsL := [(.int z0)]) (rest := []) (lenOf pd_10 rfl) rfl (by show 2 * 0 + _ ≤ _; exact Nat.le_of_eq rfl) (hb hby at_465) (fun _ _ => ⟨rfl, eJ56, (by decide : 9 + 0 ≤ _), (by decide : 216 + 0 ≤ _)⟩)
                  dsimp only [Pt.U, Pt.locs, Pt.cells, Pt.slots] at X58 l58 y58 z58 st58 hQ58
                  subst l58 y58 z58
                  obtain ⟨rfl, Nq58, eq58⟩ := hQ58
                  have N58 := Fr.app NJ56 Nq58
                  refine Runs.by (fun t hr => st58 t hr) ?_
                  by_cases hc468 : (own_ws z0) = (0 : Int32)
                  · -- pc 468: (own_ws z0) = (0 : Int32)
                    refine Runs.by (fun _ hr => XS.ifYes X58.here hx rfl (pc0 := 468) (pc' := 498) rfl (hb hby at_468) rfl ((if0 _ _).trans (teq hc468).1) (by decide) (by decide) hr) ?_
                    refine Runs.by (fun _ hr => XS.iconst X58.here hx rfl (hb hby at_498) hr) ?_
                    exact JX3 (0 : Int32) _ _ X58 eq58 N58 ⟨fun q => absurd rfl q, fun q => absurd hc468 q.2.1⟩
                  · -- pc 468: not (own_ws z0) = (0 : Int32)
                    refine Runs.by (fun _ hr => XS.ifNo X58.here hx rfl (hb hby at_468) rfl ((if0 _ _).trans (feq hc468).1) hr) ?_
                    refine Runs.by (fun _ hr => XS.iload X58.here hx rfl (hb hby at_471) rfl  hr) ?_
                    show Runs p e below _ (T58.setTop (mkF m 473 #[.val (.int p0), .val (.int p1), .val (.int p2), .val (.int p3), .val (.int p4), .val (.int fr), .val (.int tt), .val (.ref b2), .val (.int (p3.toInt8.toInt32)), .val (.int kk), .val (.int ((p4 >>> ((8 : Int32) &&& 31)).toInt8.toInt32)), .val (.int z0), .val (.int z1), .val (.int z2), .val (.int z3), .val (.int bg), .val (.int nk), .val (.long ee), .second, .val (.int x0), .val (.int x1), .val (.int x2), .unset, .unset] [(.int z1)]))
                    obtain ⟨_, _, ⟨T59, L59, k59, n59⟩, -, X59, ⟨Lc59, hQ59, l59, y59, z59⟩, st59⟩ := Jvm.LawKit.callS X58 hx (y := (⟨"com/example/word_odds/wordodds/filter/VerdictFieldBeginsPinLaw", "ws", "(B)Z"⟩ : MethodName)) hown (mvT hZ (hw _ (List.mem_of_getElem? (i := 63) rfl))) (mvT hZ (hw _ (List.mem_of_getElem? (i := 64) rfl))) (mvT hZ (hw _ (List.mem_of_getElem? (i := 4) rfl))) (mvT hZ (hw _ (List.mem_of_getElem? (i := 65) rfl))) (by decide) (backOf (W := 0) (rm12 l Z a0 hw [] z1  hJ52 n0 (Nat.le_trans Z0 KJ52.1) ) hZ (hw _ (List.mem_of_getElem? (i := 65) rfl)) (hw _ (List.mem_of_getElem? (i := 4) rfl)) (by decide) (by decide)) (g := (mkF m 473 #[.val (.int p0), .val (.int p1), .val (.int p2), .val (.int p3), .val (.int p4), .val (.int fr), .val (.int tt), .val (.ref b2), .val (.int (p3.toInt8.toInt32)), .val (.int kk), .val (.int ((p4 >>> ((8 : Int32) &&& 31)).toInt8.toInt32)), .val (.int z0), .val (.int z1), .val (.int z2), .val (.int z3), .val (.int bg), .val (.int nk), .val (.long ee), .second, .val (.int x0), .val (.int x1), .val (.int x2), .unset, .unset] [(.int z1)])) rfl (by rw [hml]; rfl) (argsL := [(.int z1)]) (rest := []) (lenOf pd_10 rfl) rfl (by show 2 * 0 + _ ≤ _; exact Nat.le_of_eq rfl) (hb hby at_473) (fun _ _ => ⟨rfl, eq58, (by decide : 9 + 0 ≤ _), (by decide : 216 + 0 ≤ _)⟩)
                    dsimp only [Pt.U, Pt.locs, Pt.cells, Pt.slots] at X59 l59 y59 z59 st59 hQ59
                    subst l59 y59 z59
                    obtain ⟨rfl, Nq59, eq59⟩ := hQ59
                    have N59 := Fr.app N58 Nq59
                    refine Runs.by (fun t hr => st59 t hr) ?_
                    by_cases hc476 : (own_ws z1) = (0 : Int32)
                    · -- pc 476: (own_ws z1) = (0 : Int32)
                      refine Runs.by (fun _ hr => XS.ifYes X59.here hx rfl (pc0 := 476) (pc' := 498) rfl (hb hby at_476) rfl ((if0 _ _).trans (teq hc476).1) (by decide) (by decide) hr) ?_
                      refine Runs.by (fun _ hr => XS.iconst X59.here hx rfl (hb hby at_498) hr) ?_
                      exact JX3 (0 : Int32) _ _ X59 eq59 N59 ⟨fun q => absurd rfl q, fun q => absurd hc476 q.2.2.1⟩
                    · -- pc 476: not (own_ws z1) = (0 : Int32)
                      refine Runs.by (fun _ hr => XS.ifNo X59.here hx rfl (hb hby at_476) rfl ((if0 _ _).trans (feq hc476).1) hr) ?_
                      refine Runs.by (fun _ hr => XS.iload X59.here hx rfl (hb hby at_479) rfl  hr) ?_
                      show Runs p e below _ (T59.setTop (mkF m 481 #[.val (.int p0), .val (.int p1), .val (.int p2), .val (.int p3), .val (.int p4), .val (.int fr), .val (.int tt), .val (.ref b2), .val (.int (p3.toInt8.toInt32)), .val (.int kk), .val (.int ((p4 >>> ((8 : Int32) &&& 31)).toInt8.toInt32)), .val (.int z0), .val (.int z1), .val (.int z2), .val (.int z3), .val (.int bg), .val (.int nk), .val (.long ee), .second, .val (.int x0), .val (.int x1), .val (.int x2), .unset, .unset] [(.int z2)]))
                      obtain ⟨_, _, ⟨T60, L60, k60, n60⟩, -, X60, ⟨Lc60, hQ60, l60, y60, z60⟩, st60⟩ := Jvm.LawKit.callS X59 hx (y := (⟨"com/example/word_odds/wordodds/filter/VerdictFieldBeginsPinLaw", "ws", "(B)Z"⟩ : MethodName)) hown (mvT hZ (hw _ (List.mem_of_getElem? (i := 63) rfl))) (mvT hZ (hw _ (List.mem_of_getElem? (i := 64) rfl))) (mvT hZ (hw _ (List.mem_of_getElem? (i := 4) rfl))) (mvT hZ (hw _ (List.mem_of_getElem? (i := 65) rfl))) (by decide) (backOf (W := 0) (rm12 l Z a0 hw [] z2  hJ52 n0 (Nat.le_trans Z0 KJ52.1) ) hZ (hw _ (List.mem_of_getElem? (i := 65) rfl)) (hw _ (List.mem_of_getElem? (i := 4) rfl)) (by decide) (by decide)) (g := (mkF m 481 #[.val (.int p0), .val (.int p1), .val (.int p2), .val (.int p3), .val (.int p4), .val (.int fr), .val (.int tt), .val (.ref b2), .val (.int (p3.toInt8.toInt32)), .val (.int kk), .val (.int ((p4 >>> ((8 : Int32) &&& 31)).toInt8.toInt32)), .val (.int z0), .val (.int z1), .val (.int z2), .val (.int z3), .val (.int bg), .val (.int nk), .val (.long ee), .second, .val (.int x0), .val (.int x1), .val (.int x2), .unset, .unset] [(.int z2)])) rfl (by rw [hml]; rfl) (argsL := [(.int z2)]) (rest := []) (lenOf pd_10 rfl) rfl (by show 2 * 0 + _ ≤ _; exact Nat.le_of_eq rfl) (hb hby at_481) (fun _ _ => ⟨rfl, eq59, (by decide : 9 + 0 ≤ _), (by decide : 216 + 0 ≤ _)⟩)
                      dsimp only [Pt.U, Pt.locs, Pt.cells, Pt.slots] at X60 l60 y60 z60 st60 hQ60
                      subst l60 y60 z60
                      obtain ⟨rfl, Nq60, eq60⟩ := hQ60
                      have N60 := Fr.app N59 Nq60
                      refine Runs.by (fun t hr => st60 t hr) ?_
                      by_cases hc484 : (own_ws z2) = (0 : Int32)
                      · -- pc 484: (own_ws z2) = (0 : Int32)
                        refine Runs.by (fun _ hr => XS.ifYes X60.here hx rfl (pc0 := 484) (pc' := 498) rfl (hb hby at_484) rfl ((if0 _ _).trans (teq hc484).1) (by decide) (by decide) hr) ?_
                        refine Runs.by (fun _ hr => XS.iconst X60.here hx rfl (hb hby at_498) hr) ?_
                        exact JX3 (0 : Int32) _ _ X60 eq60 N60 ⟨fun q => absurd rfl q, fun q => absurd hc484 q.2.2.2.1⟩
                      · -- pc 484: not (own_ws z2) = (0 : Int32)
                        refine Runs.by (fun _ hr => XS.ifNo X60.here hx rfl (hb hby at_484) rfl ((if0 _ _).trans (feq hc484).1) hr) ?_
                        refine Runs.by (fun _ hr => XS.iload X60.here hx rfl (hb hby at_487) rfl  hr) ?_
                        show Runs p e below _ (T60.setTop (mkF m 489 #[.val (.int p0), .val (.int p1), .val (.int p2), .val (.int p3), .val (.int p4), .val (.int fr), .val (.int tt), .val (.ref b2), .val (.int (p3.toInt8.toInt32)), .val (.int kk), .val (.int ((p4 >>> ((8 : Int32) &&& 31)).toInt8.toInt32)), .val (.int z0), .val (.int z1), .val (.int z2), .val (.int z3), .val (.int bg), .val (.int nk), .val (.long ee), .second, .val (.int x0), .val (.int x1), .val (.int x2), .unset, .unset] [(.int z3)]))
                        refine Runs.by (fun _ hr => XS.bipush X60.here hx rfl (hb hby at_489) hr) ?_
                        by_cases hc491 : z3 = (58 : Int32)
                        · -- pc 491: z3 = (58 : Int32)
                          refine Runs.by (fun _ hr => XS.icmpNo X60.here hx rfl (hb hby at_491) rfl (teq hc491).2 hr) ?_
                          refine Runs.by (fun _ hr => XS.iconst X60.here hx rfl (hb hby at_494) hr) ?_
                          show Runs p e below _ (T60.setTop (mkF m 495 #[.val (.int p0), .val (.int p1), .val (.int p2), .val (.int p3), .val (.int p4), .val (.int fr), .val (.int tt), .val (.ref b2), .val (.int (p3.toInt8.toInt32)), .val (.int kk), .val (.int ((p4 >>> ((8 : Int32) &&& 31)).toInt8.toInt32)), .val (.int z0), .val (.int z1), .val (.int z2), .val (.int z3), .val (.int bg), .val (.int nk), .val (.long ee), .second, .val (.int x0), .val (.int x1), .val (.int x2), .unset, .unset] [(.int (1 : Int32))]))
                          refine Runs.by (fun _ hr => XS.goto X60.here hx rfl (pc0 := 495) (pc' := 499) rfl (hb hby at_495) (by decide) (by decide) hr) ?_
                          exact JX3 (1 : Int32) _ _ X60 eq60 N60 ⟨fun _ => ⟨hc460, hc468, hc476, hc484, hc491⟩, fun _ => by decide⟩
                        · -- pc 491: not z3 = (58 : Int32)
                          refine Runs.by (fun _ hr => XS.icmpYes X60.here hx rfl (pc0 := 491) (pc' := 498) rfl (hb hby at_491) rfl (feq hc491).2 (by decide) (by decide) hr) ?_
                          refine Runs.by (fun _ hr => XS.iconst X60.here hx rfl (hb hby at_498) hr) ?_
                          exact JX3 (0 : Int32) _ _ X60 eq60 N60 ⟨fun q => absurd rfl q, fun q => absurd q.2.2.2.2 hc491⟩
                · -- pc 460: not (lcmpW (14 : Int64) ee) < (0 : Int32)
                  refine Runs.by (fun _ hr => XS.ifYes XJ56.here hx rfl (pc0 := 460) (pc' := 498) rfl (hb hby at_460) rfl ((if0 _ _).trans (flt hc460).2.1) (by decide) (by decide) hr) ?_
                  refine Runs.by (fun _ hr => XS.iconst XJ56.here hx rfl (hb hby at_498) hr) ?_
                  exact JX3 (0 : Int32) _ _ XJ56 eJ56 NJ56 ⟨fun q => absurd rfl q, fun q => absurd q.1 hc460⟩
              show Runs p e below _ (TJ55.setTop (mkF m 415 #[.val (.int p0), .val (.int p1), .val (.int p2), .val (.int p3), .val (.int p4), .val (.int fr), .val (.int tt), .val (.ref b2), .val (.int (p3.toInt8.toInt32)), .val (.int kk), .val (.int ((p4 >>> ((8 : Int32) &&& 31)).toInt8.toInt32)), .val (.int z0), .val (.int z1), .val (.int z2), .val (.int z3), .val (.int bg), .val (.int nk), .val (.long ee), .second, .val (.int x0), .val (.int x1), .unset, .unset, .unset] []))
              refine Runs.by (fun _ hr => XJ55.ldc2J hx hown (mvT hZ (hw _ (List.mem_of_getElem? (i := 58) rfl))) (g := (mkF m 415 #[.val (.int p0), .val (.int p1), .val (.int p2), .val (.int p3), .val (.int p4), .val (.int fr), .val (.int tt), .val (.ref b2), .val (.int (p3.toInt8.toInt32)), .val (.int kk), .val (.int ((p4 >>> ((8 : Int32) &&& 31)).toInt8.toInt32)), .val (.int z0), .val (.int z1), .val (.int z2), .val (.int z3), .val (.int bg), .val (.int nk), .val (.long ee), .second, .val (.int x0), .val (.int x1), .unset, .unset, .unset] [])) rfl (hb hby at_415) hr) ?_
              refine Runs.by (fun _ hr => XS.lload XJ55.here hx rfl (hb hby at_418) rfl  hr) ?_
              refine Runs.by (fun _ hr => XS.lcmp XJ55.here hx rfl (hb hby at_420) rfl hr) ?_
              show Runs p e below _ (TJ55.setTop (mkF m 421 #[.val (.int p0), .val (.int p1), .val (.int p2), .val (.int p3), .val (.int p4), .val (.int fr), .val (.int tt), .val (.ref b2), .val (.int (p3.toInt8.toInt32)), .val (.int kk), .val (.int ((p4 >>> ((8 : Int32) &&& 31)).toInt8.toInt32)), .val (.int z0), .val (.int z1), .val (.int z2), .val (.int z3), .val (.int bg), .val (.int nk), .val (.long ee), .second, .val (.int x0), .val (.int x1), .unset, .unset, .unset] [(.int (lcmpW (13 : Int64) ee))]))
              by_cases hc421 : (lcmpW (13 : Int64) ee) < (0 : Int32)
              · -- pc 421: (lcmpW (13 : Int64) ee) < (0 : Int32)
                refine Runs.by (fun _ hr => XS.ifNo XJ55.here hx rfl (hb hby at_421) rfl ((if0 _ _).trans (tlt hc421).2.1) hr) ?_
                refine Runs.by (fun _ hr => XS.iload XJ55.here hx rfl (hb hby at_424) rfl  hr) ?_
                show Runs p e below _ (TJ55.setTop (mkF m 426 #[.val (.int p0), .val (.int p1), .val (.int p2), .val (.int p3), .val (.int p4), .val (.int fr), .val (.int tt), .val (.ref b2), .val (.int (p3.toInt8.toInt32)), .val (.int kk), .val (.int ((p4 >>> ((8 : Int32) &&& 31)).toInt8.toInt32)), .val (.int z0), .val (.int z1), .val (.int z2), .val (.int z3), .val (.int bg), .val (.int nk), .val (.long ee), .second, .val (.int x0), .val (.int x1), .unset, .unset, .unset] [(.int z0)]))
                obtain ⟨_, _, ⟨T61, L61, k61, n61⟩, -, X61, ⟨Lc61, hQ61, l61, y61, z61⟩, st61⟩ := Jvm.LawKit.callS XJ55 hx (y := (⟨"com/example/word_odds/wordodds/filter/VerdictFieldBeginsPinLaw", "ws", "(B)Z"⟩ : MethodName)) hown (mvT hZ (hw _ (List.mem_of_getElem? (i := 63) rfl))) (mvT hZ (hw _ (List.mem_of_getElem? (i := 64) rfl))) (mvT hZ (hw _ (List.mem_of_getElem? (i := 4) rfl))) (mvT hZ (hw _ (List.mem_of_getElem? (i := 65) rfl))) (by decide) (backOf (W := 0) (rm12 l Z a0 hw [] z0  hJ52 n0 (Nat.le_trans Z0 KJ52.1) ) hZ (hw _ (List.mem_of_getElem? (i := 65) rfl)) (hw _ (List.mem_of_getElem? (i := 4) rfl)) (by decide) (by decide)) (g := (mkF m 426 #[.val (.int p0), .val (.int p1), .val (.int p2), .val (.int p3), .val (.int p4), .val (.int fr), .val (.int tt), .val (.ref b2), .val (.int (p3.toInt8.toInt32)), .val (.int kk), .val (.int ((p4 >>> ((8 : Int32) &&& 31)).toInt8.toInt32)), .val (.int z0), .val (.int z1), .val (.int z2), .val (.int z3), .val (.int bg), .val (.int nk), .val (.long ee), .second, .val (.int x0), .val (.int x1), .unset, .unset, .unset] [(.int z0)])) rfl (by rw [hml]; rfl) (argsL := [(.int z0)]) (rest := []) (lenOf pd_10 rfl) rfl (by show 2 * 0 + _ ≤ _; exact Nat.le_of_eq rfl) (hb hby at_426) (fun _ _ => ⟨rfl, eJ55, (by decide : 9 + 0 ≤ _), (by decide : 216 + 0 ≤ _)⟩)
                dsimp only [Pt.U, Pt.locs, Pt.cells, Pt.slots] at X61 l61 y61 z61 st61 hQ61
                subst l61 y61 z61
                obtain ⟨rfl, Nq61, eq61⟩ := hQ61
                have N61 := Fr.app NJ55 Nq61
                refine Runs.by (fun t hr => st61 t hr) ?_
                by_cases hc429 : (own_ws z0) = (0 : Int32)
                · -- pc 429: (own_ws z0) = (0 : Int32)
                  refine Runs.by (fun _ hr => XS.ifYes X61.here hx rfl (pc0 := 429) (pc' := 451) rfl (hb hby at_429) rfl ((if0 _ _).trans (teq hc429).1) (by decide) (by decide) hr) ?_
                  refine Runs.by (fun _ hr => XS.iconst X61.here hx rfl (hb hby at_451) hr) ?_
                  exact JX2 (0 : Int32) _ _ X61 eq61 N61 ⟨fun q => absurd rfl q, fun q => absurd hc429 q.2.1⟩
                · -- pc 429: not (own_ws z0) = (0 : Int32)
                  refine Runs.by (fun _ hr => XS.ifNo X61.here hx rfl (hb hby at_429) rfl ((if0 _ _).trans (feq hc429).1) hr) ?_
                  refine Runs.by (fun _ hr => XS.iload X61.here hx rfl (hb hby at_432) rfl  hr) ?_
                  show Runs p e below _ (T61.setTop (mkF m 434 #[.val (.int p0), .val (.int p1), .val (.int p2), .val (.int p3), .val (.int p4), .val (.int fr), .val (.int tt), .val (.ref b2), .val (.int (p3.toInt8.toInt32)), .val (.int kk), .val (.int ((p4 >>> ((8 : Int32) &&& 31)).toInt8.toInt32)), .val (.int z0), .val (.int z1), .val (.int z2), .val (.int z3), .val (.int bg), .val (.int nk), .val (.long ee), .second, .val (.int x0), .val (.int x1), .unset, .unset, .unset] [(.int z1)]))
                  obtain ⟨_, _, ⟨T62, L62, k62, n62⟩, -, X62, ⟨Lc62, hQ62, l62, y62, z62⟩, st62⟩ := Jvm.LawKit.callS X61 hx (y := (⟨"com/example/word_odds/wordodds/filter/VerdictFieldBeginsPinLaw", "ws", "(B)Z"⟩ : MethodName)) hown (mvT hZ (hw _ (List.mem_of_getElem? (i := 63) rfl))) (mvT hZ (hw _ (List.mem_of_getElem? (i := 64) rfl))) (mvT hZ (hw _ (List.mem_of_getElem? (i := 4) rfl))) (mvT hZ (hw _ (List.mem_of_getElem? (i := 65) rfl))) (by decide) (backOf (W := 0) (rm12 l Z a0 hw [] z1  hJ52 n0 (Nat.le_trans Z0 KJ52.1) ) hZ (hw _ (List.mem_of_getElem? (i := 65) rfl)) (hw _ (List.mem_of_getElem? (i := 4) rfl)) (by decide) (by decide)) (g := (mkF m 434 #[.val (.int p0), .val (.int p1), .val (.int p2), .val (.int p3), .val (.int p4), .val (.int fr), .val (.int tt), .val (.ref b2), .val (.int (p3.toInt8.toInt32)), .val (.int kk), .val (.int ((p4 >>> ((8 : Int32) &&& 31)).toInt8.toInt32)), .val (.int z0), .val (.int z1), .val (.int z2), .val (.int z3), .val (.int bg), .val (.int nk), .val (.long ee), .second, .val (.int x0), .val (.int x1), .unset, .unset, .unset] [(.int z1)])) rfl (by rw [hml]; rfl) (argsL := [(.int z1)]) (rest := []) (lenOf pd_10 rfl) rfl (by show 2 * 0 + _ ≤ _; exact Nat.le_of_eq rfl) (hb hby at_434) (fun _ _ => ⟨rfl, eq61, (by decide : 9 + 0 ≤ _), (by decide : 216 + 0 ≤ _)⟩)
                  dsimp only [Pt.U, Pt.locs, Pt.cells, Pt.slots] at X62 l62 y62 z62 st62 hQ62
                  subst l62 y62 z62
                  obtain ⟨rfl, Nq62, eq62⟩ := hQ62
                  have N62 := Fr.app N61 Nq62
                  refine Runs.by (fun t hr => st62 t hr) ?_
                  by_cases hc437 : (own_ws z1) = (0 : Int32)
                  · -- pc 437: (own_ws z1) = (0 : Int32)
                    refine Runs.by (fun _ hr => XS.ifYes X62.here hx rfl (pc0 := 437) (pc' := 451) rfl (hb hby at_437) rfl ((if0 _ _).trans (teq hc437).1) (by decide) (by decide) hr) ?_
                    refine Runs.by (fun _ hr => XS.iconst X62.here hx rfl (hb hby at_451) hr) ?_
                    exact JX2 (0 : Int32) _ _ X62 eq62 N62 ⟨fun q => absurd rfl q, fun q => absurd hc437 q.2.2.1⟩
                  · -- pc 437: not (own_ws z1) = (0 : Int32)
                    refine Runs.by (fun _ hr => XS.ifNo X62.here hx rfl (hb hby at_437) rfl ((if0 _ _).trans (feq hc437).1) hr) ?_
                    refine Runs.by (fun _ hr => XS.iload X62.here hx rfl (hb hby at_440) rfl  hr) ?_
                    show Runs p e below _ (T62.setTop (mkF m 442 #[.val (.int p0), .val (.int p1), .val (.int p2), .val (.int p3), .val (.int p4), .val (.int fr), .val (.int tt), .val (.ref b2), .val (.int (p3.toInt8.toInt32)), .val (.int kk), .val (.int ((p4 >>> ((8 : Int32) &&& 31)).toInt8.toInt32)), .val (.int z0), .val (.int z1), .val (.int z2), .val (.int z3), .val (.int bg), .val (.int nk), .val (.long ee), .second, .val (.int x0), .val (.int x1), .unset, .unset, .unset] [(.int z2)]))
                    refine Runs.by (fun _ hr => XS.bipush X62.here hx rfl (hb hby at_442) hr) ?_
                    by_cases hc444 : z2 = (58 : Int32)
                    · -- pc 444: z2 = (58 : Int32)
                      refine Runs.by (fun _ hr => XS.icmpNo X62.here hx rfl (hb hby at_444) rfl (teq hc444).2 hr) ?_
                      refine Runs.by (fun _ hr => XS.iconst X62.here hx rfl (hb hby at_447) hr) ?_
                      show Runs p e below _ (T62.setTop (mkF m 448 #[.val (.int p0), .val (.int p1), .val (.int p2), .val (.int p3), .val (.int p4), .val (.int fr), .val (.int tt), .val (.ref b2), .val (.int (p3.toInt8.toInt32)), .val (.int kk), .val (.int ((p4 >>> ((8 : Int32) &&& 31)).toInt8.toInt32)), .val (.int z0), .val (.int z1), .val (.int z2), .val (.int z3), .val (.int bg), .val (.int nk), .val (.long ee), .second, .val (.int x0), .val (.int x1), .unset, .unset, .unset] [(.int (1 : Int32))]))
                      refine Runs.by (fun _ hr => XS.goto X62.here hx rfl (pc0 := 448) (pc' := 452) rfl (hb hby at_448) (by decide) (by decide) hr) ?_
                      exact JX2 (1 : Int32) _ _ X62 eq62 N62 ⟨fun _ => ⟨hc421, hc429, hc437, hc444⟩, fun _ => by decide⟩
                    · -- pc 444: not z2 = (58 : Int32)
                      refine Runs.by (fun _ hr => XS.icmpYes X62.here hx rfl (pc0 := 444) (pc' := 451) rfl (hb hby at_444) rfl (feq hc444).2 (by decide) (by decide) hr) ?_
                      refine Runs.by (fun _ hr => XS.iconst X62.here hx rfl (hb hby at_451) hr) ?_
                      exact JX2 (0 : Int32) _ _ X62 eq62 N62 ⟨fun q => absurd rfl q, fun q => absurd q.2.2.2 hc444⟩
              · -- pc 421: not (lcmpW (13 : Int64) ee) < (0 : Int32)
                refine Runs.by (fun _ hr => XS.ifYes XJ55.here hx rfl (pc0 := 421) (pc' := 451) rfl (hb hby at_421) rfl ((if0 _ _).trans (flt hc421).2.1) (by decide) (by decide) hr) ?_
                refine Runs.by (fun _ hr => XS.iconst XJ55.here hx rfl (hb hby at_451) hr) ?_
                exact JX2 (0 : Int32) _ _ XJ55 eJ55 NJ55 ⟨fun q => absurd rfl q, fun q => absurd q.1 hc421⟩
            show Runs p e below _ (TJ54.setTop (mkF m 384 #[.val (.int p0), .val (.int p1), .val (.int p2), .val (.int p3), .val (.int p4), .val (.int fr), .val (.int tt), .val (.ref b2), .val (.int (p3.toInt8.toInt32)), .val (.int kk), .val (.int ((p4 >>> ((8 : Int32) &&& 31)).toInt8.toInt32)), .val (.int z0), .val (.int z1), .val (.int z2), .val (.int z3), .val (.int bg), .val (.int nk), .val (.long ee), .second, .val (.int x0), .unset, .unset, .unset, .unset] []))
            refine Runs.by (fun _ hr => XJ54.ldc2J hx hown (mvT hZ (hw _ (List.mem_of_getElem? (i := 57) rfl))) (g := (mkF m 384 #[.val (.int p0), .val (.int p1), .val (.int p2), .val (.int p3), .val (.int p4), .val (.int fr), .val (.int tt), .val (.ref b2), .val (.int (p3.toInt8.toInt32)), .val (.int kk), .val (.int ((p4 >>> ((8 : Int32) &&& 31)).toInt8.toInt32)), .val (.int z0), .val (.int z1), .val (.int z2), .val (.int z3), .val (.int bg), .val (.int nk), .val (.long ee), .second, .val (.int x0), .unset, .unset, .unset, .unset] [])) rfl (hb hby at_384) hr) ?_
            refine Runs.by (fun _ hr => XS.lload XJ54.here hx rfl (hb hby at_387) rfl  hr) ?_
            refine Runs.by (fun _ hr => XS.lcmp XJ54.here hx rfl (hb hby at_389) rfl hr) ?_
            show Runs p e below _ (TJ54.setTop (mkF m 390 #[.val (.int p0), .val (.int p1), .val (.int p2), .val (.int p3), .val (.int p4), .val (.int fr), .val (.int tt), .val (.ref b2), .val (.int (p3.toInt8.toInt32)), .val (.int kk), .val (.int ((p4 >>> ((8 : Int32) &&& 31)).toInt8.toInt32)), .val (.int z0), .val (.int z1), .val (.int z2), .val (.int z3), .val (.int bg), .val (.int nk), .val (.long ee), .second, .val (.int x0), .unset, .unset, .unset, .unset] [(.int (lcmpW (12 : Int64) ee))]))
            by_cases hc390 : (lcmpW (12 : Int64) ee) < (0 : Int32)
            · -- pc 390: (lcmpW (12 : Int64) ee) < (0 : Int32)
              refine Runs.by (fun _ hr => XS.ifNo XJ54.here hx rfl (hb hby at_390) rfl ((if0 _ _).trans (tlt hc390).2.1) hr) ?_
              refine Runs.by (fun _ hr => XS.iload XJ54.here hx rfl (hb hby at_393) rfl  hr) ?_
              show Runs p e below _ (TJ54.setTop (mkF m 395 #[.val (.int p0), .val (.int p1), .val (.int p2), .val (.int p3), .val (.int p4), .val (.int fr), .val (.int tt), .val (.ref b2), .val (.int (p3.toInt8.toInt32)), .val (.int kk), .val (.int ((p4 >>> ((8 : Int32) &&& 31)).toInt8.toInt32)), .val (.int z0), .val (.int z1), .val (.int z2), .val (.int z3), .val (.int bg), .val (.int nk), .val (.long ee), .second, .val (.int x0), .unset, .unset, .unset, .unset] [(.int z0)]))
              obtain ⟨_, _, ⟨T63, L63, k63, n63⟩, -, X63, ⟨Lc63, hQ63, l63, y63, z63⟩, st63⟩ := Jvm.LawKit.callS XJ54 hx (y := (⟨"com/example/word_odds/wordodds/filter/VerdictFieldBeginsPinLaw", "ws", "(B)Z"⟩ : MethodName)) hown (mvT hZ (hw _ (List.mem_of_getElem? (i := 63) rfl))) (mvT hZ (hw _ (List.mem_of_getElem? (i := 64) rfl))) (mvT hZ (hw _ (List.mem_of_getElem? (i := 4) rfl))) (mvT hZ (hw _ (List.mem_of_getElem? (i := 65) rfl))) (by decide) (backOf (W := 0) (rm12 l Z a0 hw [] z0  hJ52 n0 (Nat.le_trans Z0 KJ52.1) ) hZ (hw _ (List.mem_of_getElem? (i := 65) rfl)) (hw _ (List.mem_of_getElem? (i := 4) rfl)) (by decide) (by decide)) (g := (mkF m 395 #[.val (.int p0), .val (.int p1), .val (.int p2), .val (.int p3), .val (.int p4), .val (.int fr), .val (.int tt), .val (.ref b2), .val (.int (p3.toInt8.toInt32)), .val (.int kk), .val (.int ((p4 >>> ((8 : Int32) &&& 31)).toInt8.toInt32)), .val (.int z0), .val (.int z1), .val (.int z2), .val (.int z3), .val (.int bg), .val (.int nk), .val (.long ee), .second, .val (.int x0), .unset, .unset, .unset, .unset] [(.int z0)])) rfl (by rw [hml]; rfl) (argsL := [(.int z0)]) (rest := []) (lenOf pd_10 rfl) rfl (by show 2 * 0 + _ ≤ _; exact Nat.le_of_eq rfl) (hb hby at_395) (fun _ _ => ⟨rfl, eJ54, (by decide : 9 + 0 ≤ _), (by decide : 216 + 0 ≤ _)⟩)
              dsimp only [Pt.U, Pt.locs, Pt.cells, Pt.slots] at X63 l63 y63 z63 st63 hQ63
              subst l63 y63 z63
              obtain ⟨rfl, Nq63, eq63⟩ := hQ63
              have N63 := Fr.app NJ54 Nq63
              refine Runs.by (fun t hr => st63 t hr) ?_
              by_cases hc398 : (own_ws z0) = (0 : Int32)
              · -- pc 398: (own_ws z0) = (0 : Int32)
                refine Runs.by (fun _ hr => XS.ifYes X63.here hx rfl (pc0 := 398) (pc' := 412) rfl (hb hby at_398) rfl ((if0 _ _).trans (teq hc398).1) (by decide) (by decide) hr) ?_
                refine Runs.by (fun _ hr => XS.iconst X63.here hx rfl (hb hby at_412) hr) ?_
                exact JX1 (0 : Int32) _ _ X63 eq63 N63 ⟨fun q => absurd rfl q, fun q => absurd hc398 q.2.1⟩
              · -- pc 398: not (own_ws z0) = (0 : Int32)
                refine Runs.by (fun _ hr => XS.ifNo X63.here hx rfl (hb hby at_398) rfl ((if0 _ _).trans (feq hc398).1) hr) ?_
                refine Runs.by (fun _ hr => XS.iload X63.here hx rfl (hb hby at_401) rfl  hr) ?_
                show Runs p e below _ (T63.setTop (mkF m 403 #[.val (.int p0), .val (.int p1), .val (.int p2), .val (.int p3), .val (.int p4), .val (.int fr), .val (.int tt), .val (.ref b2), .val (.int (p3.toInt8.toInt32)), .val (.int kk), .val (.int ((p4 >>> ((8 : Int32) &&& 31)).toInt8.toInt32)), .val (.int z0), .val (.int z1), .val (.int z2), .val (.int z3), .val (.int bg), .val (.int nk), .val (.long ee), .second, .val (.int x0), .unset, .unset, .unset, .unset] [(.int z1)]))
                refine Runs.by (fun _ hr => XS.bipush X63.here hx rfl (hb hby at_403) hr) ?_
                by_cases hc405 : z1 = (58 : Int32)
                · -- pc 405: z1 = (58 : Int32)
                  refine Runs.by (fun _ hr => XS.icmpNo X63.here hx rfl (hb hby at_405) rfl (teq hc405).2 hr) ?_
                  refine Runs.by (fun _ hr => XS.iconst X63.here hx rfl (hb hby at_408) hr) ?_
                  show Runs p e below _ (T63.setTop (mkF m 409 #[.val (.int p0), .val (.int p1), .val (.int p2), .val (.int p3), .val (.int p4), .val (.int fr), .val (.int tt), .val (.ref b2), .val (.int (p3.toInt8.toInt32)), .val (.int kk), .val (.int ((p4 >>> ((8 : Int32) &&& 31)).toInt8.toInt32)), .val (.int z0), .val (.int z1), .val (.int z2), .val (.int z3), .val (.int bg), .val (.int nk), .val (.long ee), .second, .val (.int x0), .unset, .unset, .unset, .unset] [(.int (1 : Int32))]))
                  refine Runs.by (fun _ hr => XS.goto X63.here hx rfl (pc0 := 409) (pc' := 413) rfl (hb hby at_409) (by decide) (by decide) hr) ?_
                  exact JX1 (1 : Int32) _ _ X63 eq63 N63 ⟨fun _ => ⟨hc390, hc398, hc405⟩, fun _ => by decide⟩
                · -- pc 405: not z1 = (58 : Int32)
                  refine Runs.by (fun _ hr => XS.icmpYes X63.here hx rfl (pc0 := 405) (pc' := 412) rfl (hb hby at_405) rfl (feq hc405).2 (by decide) (by decide) hr) ?_
                  refine Runs.by (fun _ hr => XS.iconst X63.here hx rfl (hb hby at_412) hr) ?_
                  exact JX1 (0 : Int32) _ _ X63 eq63 N63 ⟨fun q => absurd rfl q, fun q => absurd q.2.2 hc405⟩
            · -- pc 390: not (lcmpW (12 : Int64) ee) < (0 : Int32)
              refine Runs.by (fun _ hr => XS.ifYes XJ54.here hx rfl (pc0 := 390) (pc' := 412) rfl (hb hby at_390) rfl ((if0 _ _).trans (flt hc390).2.1) (by decide) (by decide) hr) ?_
              refine Runs.by (fun _ hr => XS.iconst XJ54.here hx rfl (hb hby at_412) hr) ?_
              exact JX1 (0 : Int32) _ _ XJ54 eJ54 NJ54 ⟨fun q => absurd rfl q, fun q => absurd q.1 hc390⟩
          show Runs p e below _ (T53.setTop (mkF m 361 #[.val (.int p0), .val (.int p1), .val (.int p2), .val (.int p3), .val (.int p4), .val (.int fr), .val (.int tt), .val (.ref b2), .val (.int (p3.toInt8.toInt32)), .val (.int kk), .val (.int ((p4 >>> ((8 : Int32) &&& 31)).toInt8.toInt32)), .val (.int z0), .val (.int z1), .val (.int z2), .val (.int z3), .val (.int bg), .val (.int nk), .val (.long ee), .second, .unset, .unset, .unset, .unset, .unset] []))
          refine Runs.by (fun _ hr => X53.ldc2J hx hown (mvT hZ (hw _ (List.mem_of_getElem? (i := 56) rfl))) (g := (mkF m 361 #[.val (.int p0), .val (.int p1), .val (.int p2), .val (.int p3), .val (.int p4), .val (.int fr), .val (.int tt), .val (.ref b2), .val (.int (p3.toInt8.toInt32)), .val (.int kk), .val (.int ((p4 >>> ((8 : Int32) &&& 31)).toInt8.toInt32)), .val (.int z0), .val (.int z1), .val (.int z2), .val (.int z3), .val (.int bg), .val (.int nk), .val (.long ee), .second, .unset, .unset, .unset, .unset, .unset] [])) rfl (hb hby at_361) hr) ?_
          refine Runs.by (fun _ hr => XS.lload X53.here hx rfl (hb hby at_364) rfl  hr) ?_
          refine Runs.by (fun _ hr => XS.lcmp X53.here hx rfl (hb hby at_366) rfl hr) ?_
          show Runs p e below _ (T53.setTop (mkF m 367 #[.val (.int p0), .val (.int p1), .val (.int p2), .val (.int p3), .val (.int p4), .val (.int fr), .val (.int tt), .val (.ref b2), .val (.int (p3.toInt8.toInt32)), .val (.int kk), .val (.int ((p4 >>> ((8 : Int32) &&& 31)).toInt8.toInt32)), .val (.int z0), .val (.int z1), .val (.int z2), .val (.int z3), .val (.int bg), .val (.int nk), .val (.long ee), .second, .unset, .unset, .unset, .unset, .unset] [(.int (lcmpW (11 : Int64) ee))]))
          by_cases hc367 : (lcmpW (11 : Int64) ee) < (0 : Int32)
          · -- pc 367: (lcmpW (11 : Int64) ee) < (0 : Int32)
            refine Runs.by (fun _ hr => XS.ifNo X53.here hx rfl (hb hby at_367) rfl ((if0 _ _).trans (tlt hc367).2.1) hr) ?_
            refine Runs.by (fun _ hr => XS.iload X53.here hx rfl (hb hby at_370) rfl  hr) ?_
            refine Runs.by (fun _ hr => XS.bipush X53.here hx rfl (hb hby at_372) hr) ?_
            show Runs p e below _ (T53.setTop (mkF m 374 #[.val (.int p0), .val (.int p1), .val (.int p2), .val (.int p3), .val (.int p4), .val (.int fr), .val (.int tt), .val (.ref b2), .val (.int (p3.toInt8.toInt32)), .val (.int kk), .val (.int ((p4 >>> ((8 : Int32) &&& 31)).toInt8.toInt32)), .val (.int z0), .val (.int z1), .val (.int z2), .val (.int z3), .val (.int bg), .val (.int nk), .val (.long ee), .second, .unset, .unset, .unset, .unset, .unset] [(.int (58 : Int32)), (.int z0)]))
            by_cases hc374 : z0 = (58 : Int32)
            · -- pc 374: z0 = (58 : Int32)
              refine Runs.by (fun _ hr => XS.icmpNo X53.here hx rfl (hb hby at_374) rfl (teq hc374).2 hr) ?_
              refine Runs.by (fun _ hr => XS.iconst X53.here hx rfl (hb hby at_377) hr) ?_
              refine Runs.by (fun _ hr => XS.goto X53.here hx rfl (pc0 := 378) (pc' := 382) rfl (hb hby at_378) (by decide) (by decide) hr) ?_
              exact JX0 (1 : Int32) _ _ X53 eq53 N53 ⟨fun _ => ⟨hc367, hc374⟩, fun _ => by decide⟩
            · -- pc 374: not z0 = (58 : Int32)
              refine Runs.by (fun _ hr => XS.icmpYes X53.here hx rfl (pc0 := 374) (pc' := 381) rfl (hb hby at_374) rfl (feq hc374).2 (by decide) (by decide) hr) ?_
              refine Runs.by (fun _ hr => XS.iconst X53.here hx rfl (hb hby at_381) hr) ?_
              exact JX0 (0 : Int32) _ _ X53 eq53 N53 ⟨fun q => absurd rfl q, fun q => absurd q.2 hc374⟩
          · -- pc 367: not (lcmpW (11 : Int64) ee) < (0 : Int32)
            refine Runs.by (fun _ hr => XS.ifYes X53.here hx rfl (pc0 := 367) (pc' := 381) rfl (hb hby at_367) rfl ((if0 _ _).trans (flt hc367).2.1) (by decide) (by decide) hr) ?_
            refine Runs.by (fun _ hr => XS.iconst X53.here hx rfl (hb hby at_381) hr) ?_
            exact JX0 (0 : Int32) _ _ X53 eq53 N53 ⟨fun q => absurd rfl q, fun q => absurd q.1 hc367⟩
        refine Runs.by (fun _ hr => XS.iload X51.here hx rfl (hb hby at_308) rfl  hr) ?_
        show Runs p e below _ (T51.setTop (mkF m 310 #[.val (.int p0), .val (.int p1), .val (.int p2), .val (.int p3), .val (.int p4), .val (.int fr), .val (.int tt), .val (.ref b2), .val (.int (p3.toInt8.toInt32)), .val (.int kk), .val (.int ((p4 >>> ((8 : Int32) &&& 31)).toInt8.toInt32)), .val (.int z0), .val (.int z1), .val (.int z2), .val (.int z3), .val (.int bg), .unset, .unset, .unset, .unset, .unset, .unset, .unset, .unset] [(.int kk)]))
        refine Runs.by (fun _ hr => XS.bipush X51.here hx rfl (hb hby at_310) hr) ?_
        have hc312 : ¬ (kk = (11 : Int32)) := (own_kne hc193)
        refine Runs.by (fun _ hr => XS.icmpNo X51.here hx rfl (hb hby at_312) rfl (feq hc312).1 hr) ?_
        refine Runs.by (fun _ hr => XS.iload X51.here hx rfl (hb hby at_315) rfl  hr) ?_
        show Runs p e below _ (T51.setTop (mkF m 317 #[.val (.int p0), .val (.int p1), .val (.int p2), .val (.int p3), .val (.int p4), .val (.int fr), .val (.int tt), .val (.ref b2), .val (.int (p3.toInt8.toInt32)), .val (.int kk), .val (.int ((p4 >>> ((8 : Int32) &&& 31)).toInt8.toInt32)), .val (.int z0), .val (.int z1), .val (.int z2), .val (.int z3), .val (.int bg), .unset, .unset, .unset, .unset, .unset, .unset, .unset, .unset] [(.int (p3.toInt8.toInt32))]))
        obtain ⟨c64, T64, h64, kk64, cb64, kc64, X64, e64, E64, hS64, hk64, hZ64, ho64, fE64, fC64, fV64, fA64, lt64, ltb64, hr64, Li64, sf64, st64⟩ := ldcCH X51 hx hZ hown (hw _ (List.mem_of_getElem? (i := 6) rfl)) wS eq51 hS hk hEL (by decide) hC.1 (vs := [(.int (120 : Int32)), (.int (45 : Int32)), (.int (119 : Int32)), (.int (111 : Int32)), (.int (114 : Int32)), (.int (100 : Int32)), (.int (45 : Int32)), (.int (111 : Int32)), (.int (100 : Int32)), (.int (100 : Int32)), (.int (115 : Int32))]) (z := (11 : Int32)) (by decide +kernel) (by decide) rfl (g := (mkF m 317 #[.val (.int p0), .val (.int p1), .val (.int p2), .val (.int p3), .val (.int p4), .val (.int fr), .val (.int tt), .val (.ref b2), .val (.int (p3.toInt8.toInt32)), .val (.int kk), .val (.int ((p4 >>> ((8 : Int32) &&& 31)).toInt8.toInt32)), .val (.int z0), .val (.int z1), .val (.int z2), .val (.int z3), .val (.int bg), .unset, .unset, .unset, .unset, .unset, .unset, .unset, .unset] [(.int (p3.toInt8.toInt32))])) rfl (hb hby at_317) (n := 44) (by decide) (by decide) (by decide) (by decide)
        have Sf34_b2__L64 := CHr.safe hr64 G49.lt Sf34_b2__K50
        have ne_b2_c64 : b2 ≠ c64 := (sf64 _ Sf34_b2__L64).1
        have ne_b2_cb64 : b2 ≠ cb64 := (sf64 _ Sf34_b2__L64).2
        have K65 : Keep h0 h64 [] := K50.ext E64
        have O_K65 : Old Z n0 h64 := O_50.ext E64
        have hC := hC.trans hr64
        have hS := hS64
        have hk := hk64
        have hZ := hZ64
        have hown := ho64
        refine Runs.by st64 ?_
        refine Runs.by (fun _ hr => XS.iload X64.here hx rfl (hb hby at_319) rfl  hr) ?_
        show Runs p e below _ (T64.setTop (mkF m 321 #[.val (.int p0), .val (.int p1), .val (.int p2), .val (.int p3), .val (.int p4), .val (.int fr), .val (.int tt), .val (.ref b2), .val (.int (p3.toInt8.toInt32)), .val (.int kk), .val (.int ((p4 >>> ((8 : Int32) &&& 31)).toInt8.toInt32)), .val (.int z0), .val (.int z1), .val (.int z2), .val (.int z3), .val (.int bg), .unset, .unset, .unset, .unset, .unset, .unset, .unset, .unset] [(.int kk), (.ref c64), (.int (p3.toInt8.toInt32))]))
        obtain ⟨cq66, kq66, q66a, q66b, q66c⟩ := isOf hZ e64 fE64
        obtain ⟨_, _, ⟨T66, L66, k66, n66⟩, -, X66, ⟨Lc66, hQ66, l66, y66, z66⟩, st66⟩ := X64.virtualBack hx (y := (⟨"java/lang/String", "charAt", "(I)C"⟩ : MethodName)) (z := (⟨"java/lang/String", "charAt", "(I)C"⟩ : MethodName)) hown (mvT hZ (hw _ (List.mem_of_getElem? (i := 13) rfl))) (mvT hZ (hw _ (List.mem_of_getElem? (i := 14) rfl))) (notFace_of_selects (args := #[]) (mvT hZ (hw _ (List.mem_of_getElem? (i := 16) rfl)))) (mvT hZ (hw _ (List.mem_of_getElem? (i := 16) rfl))) (mvT hZ (hw _ (List.mem_of_getElem? (i := 15) rfl))) (by decide) (backOf (W := 1) (rm2 l Z a0 hw [] c64 kk gC vG cb64 kc64 (11 : Int32) [(.int (120 : Int32)), (.int (45 : Int32)), (.int (119 : Int32)), (.int (111 : Int32)), (.int (114 : Int32)), (.int (100 : Int32)), (.int (45 : Int32)), (.int (111 : Int32)), (.int (100 : Int32)), (.int (100 : Int32)), (.int (115 : Int32))] (.int 0) (own_cl kk) (own_cl kk) h64 n0 (Nat.le_trans Z0 K65.1) fE64 (SC.ext O_K65.2) cC fC64 fV64 hvG (own_kin hk12.1 hc193) (SG.ext O_K65.2) fA64 (own_hatl hkl) (own_ccl hkl)) hZ (hw _ (List.mem_of_getElem? (i := 17) rfl)) (hw _ (List.mem_of_getElem? (i := 7) rfl)) (by decide) (by decide)) q66a q66c (g := (mkF m 321 #[.val (.int p0), .val (.int p1), .val (.int p2), .val (.int p3), .val (.int p4), .val (.int fr), .val (.int tt), .val (.ref b2), .val (.int (p3.toInt8.toInt32)), .val (.int kk), .val (.int ((p4 >>> ((8 : Int32) &&& 31)).toInt8.toInt32)), .val (.int z0), .val (.int z1), .val (.int z2), .val (.int z3), .val (.int bg), .unset, .unset, .unset, .unset, .unset, .unset, .unset, .unset] [(.int kk), (.ref c64), (.int (p3.toInt8.toInt32))])) rfl (by rw [hml]; rfl) (Steps.refl _) (argsL := [(.int kk)]) (rest := [(.int (p3.toInt8.toInt32))]) (lenOf pd_4 rfl) rfl (by show 2 * 0 + _ ≤ _; exact Nat.le_of_eq rfl) (hb hby at_321) (fun _ _ => ⟨rfl, e64, (by decide : 7 + 0 ≤ _), (by decide : 168 + 0 ≤ _)⟩)
        dsimp only [Pt.U, Pt.locs, Pt.cells, Pt.slots] at X66 l66 y66 z66 st66 hQ66
        subst l66 y66 z66
        obtain ⟨rfl, Nq66, eq66⟩ := hQ66
        have N66 := Fr.app N51 Nq66
        refine Runs.by (fun _ hr => st66.trans hr) ?_
        by_cases hc324 : (p3.toInt8.toInt32) = (own_cl kk)
        · -- pc 324: (p3.toInt8.toInt32) = (own_cl kk)
          refine Runs.by (fun _ hr => XS.icmpYes X66.here hx rfl (pc0 := 324) (pc' := 339) rfl (hb hby at_324) rfl (teq hc324).1 (by decide) (by decide) hr) ?_
          refine Runs.by (fun _ hr => XS.iconst X66.here hx rfl (hb hby at_339) hr) ?_
          show Runs p e below _ (T66.setTop (mkF m 340 #[.val (.int p0), .val (.int p1), .val (.int p2), .val (.int p3), .val (.int p4), .val (.int fr), .val (.int tt), .val (.ref b2), .val (.int (p3.toInt8.toInt32)), .val (.int kk), .val (.int ((p4 >>> ((8 : Int32) &&& 31)).toInt8.toInt32)), .val (.int z0), .val (.int z1), .val (.int z2), .val (.int z3), .val (.int bg), .unset, .unset, .unset, .unset, .unset, .unset, .unset, .unset] [(.int (1 : Int32))]))
          refine Runs.by (fun _ hr => XS.goto X66.here hx rfl (pc0 := 340) (pc' := 344) rfl (hb hby at_340) (by decide) (by decide) hr) ?_
          exact JN (1 : Int32) _ _ _ _ _ (X66.mono (by decide) (by decide)) eq66 N66 K65 O_K65 hC hS hk hZ hown   ((hNt ((own_lcb p3 hkl).mpr (Or.inl hc324))).trans (if_neg (by decide)).symm)
        · -- pc 324: not (p3.toInt8.toInt32) = (own_cl kk)
          refine Runs.by (fun _ hr => XS.icmpNo X66.here hx rfl (hb hby at_324) rfl (feq hc324).1 hr) ?_
          refine Runs.by (fun _ hr => XS.iload X66.here hx rfl (hb hby at_327) rfl  hr) ?_
          show Runs p e below _ (T66.setTop (mkF m 329 #[.val (.int p0), .val (.int p1), .val (.int p2), .val (.int p3), .val (.int p4), .val (.int fr), .val (.int tt), .val (.ref b2), .val (.int (p3.toInt8.toInt32)), .val (.int kk), .val (.int ((p4 >>> ((8 : Int32) &&& 31)).toInt8.toInt32)), .val (.int z0), .val (.int z1), .val (.int z2), .val (.int z3), .val (.int bg), .unset, .unset, .unset, .unset, .unset, .unset, .unset, .unset] [(.int (p3.toInt8.toInt32))]))
          obtain ⟨c67, T67, h67, kk67, cb67, kc67, X67, e67, E67, hS67, hk67, hZ67, ho67, fE67, fC67, fV67, fA67, lt67, ltb67, hr67, Li67, sf67, st67⟩ := ldcCH X66 hx hZ hown (hw _ (List.mem_of_getElem? (i := 38) rfl)) wS eq66 hS hk hEL (by decide) hC.1 (vs := [(.int (88 : Int32)), (.int (45 : Int32)), (.int (87 : Int32)), (.int (79 : Int32)), (.int (82 : Int32)), (.int (68 : Int32)), (.int (45 : Int32)), (.int (79 : Int32)), (.int (68 : Int32)), (.int (68 : Int32)), (.int (83 : Int32))]) (z := (11 : Int32)) (by decide +kernel) (by decide) rfl (g := (mkF m 329 #[.val (.int p0), .val (.int p1), .val (.int p2), .val (.int p3), .val (.int p4), .val (.int fr), .val (.int tt), .val (.ref b2), .val (.int (p3.toInt8.toInt32)), .val (.int kk), .val (.int ((p4 >>> ((8 : Int32) &&& 31)).toInt8.toInt32)), .val (.int z0), .val (.int z1), .val (.int z2), .val (.int z3), .val (.int bg), .unset, .unset, .unset, .unset, .unset, .unset, .unset, .unset] [(.int (p3.toInt8.toInt32))])) rfl (hb hby at_329) (n := 44) (by decide) (by decide) (by decide) (by decide)
          have Sf34_b2__L67 := CHr.safe hr67 (G49.ext E64).lt Sf34_b2__L64
          have ne_b2_c67 : b2 ≠ c67 := (sf67 _ Sf34_b2__L67).1
          have ne_b2_cb67 : b2 ≠ cb67 := (sf67 _ Sf34_b2__L67).2
          have K68 : Keep h0 h67 [] := K65.ext E67
          have O_K68 : Old Z n0 h67 := O_K65.ext E67
          have hC := hC.trans hr67
          have hS := hS67
          have hk := hk67
          have hZ := hZ67
          have hown := ho67
          refine Runs.by st67 ?_
          refine Runs.by (fun _ hr => XS.iload X67.here hx rfl (hb hby at_331) rfl  hr) ?_
          show Runs p e below _ (T67.setTop (mkF m 333 #[.val (.int p0), .val (.int p1), .val (.int p2), .val (.int p3), .val (.int p4), .val (.int fr), .val (.int tt), .val (.ref b2), .val (.int (p3.toInt8.toInt32)), .val (.int kk), .val (.int ((p4 >>> ((8 : Int32) &&& 31)).toInt8.toInt32)), .val (.int z0), .val (.int z1), .val (.int z2), .val (.int z3), .val (.int bg), .unset, .unset, .unset, .unset, .unset, .unset, .unset, .unset] [(.int kk), (.ref c67), (.int (p3.toInt8.toInt32))]))
          obtain ⟨cq69, kq69, q69a, q69b, q69c⟩ := isOf hZ e67 fE67
          obtain ⟨_, _, ⟨T69, L69, k69, n69⟩, -, X69, ⟨Lc69, hQ69, l69, y69, z69⟩, st69⟩ := X67.virtualBack hx (y := (⟨"java/lang/String", "charAt", "(I)C"⟩ : MethodName)) (z := (⟨"java/lang/String", "charAt", "(I)C"⟩ : MethodName)) hown (mvT hZ (hw _ (List.mem_of_getElem? (i := 13) rfl))) (mvT hZ (hw _ (List.mem_of_getElem? (i := 14) rfl))) (notFace_of_selects (args := #[]) (mvT hZ (hw _ (List.mem_of_getElem? (i := 16) rfl)))) (mvT hZ (hw _ (List.mem_of_getElem? (i := 16) rfl))) (mvT hZ (hw _ (List.mem_of_getElem? (i := 15) rfl))) (by decide) (backOf (W := 1) (rm2 l Z a0 hw [] c67 kk gC vG cb67 kc67 (11 : Int32) [(.int (88 : Int32)), (.int (45 : Int32)), (.int (87 : Int32)), (.int (79 : Int32)), (.int (82 : Int32)), (.int (68 : Int32)), (.int (45 : Int32)), (.int (79 : Int32)), (.int (68 : Int32)), (.int (68 : Int32)), (.int (83 : Int32))] (.int 0) (own_cu kk) (own_cu kk) h67 n0 (Nat.le_trans Z0 K68.1) fE67 (SC.ext O_K68.2) cC fC67 fV67 hvG (own_kin hk12.1 hc193) (SG.ext O_K68.2) fA67 (own_hatu hkl) (own_ccu hkl)) hZ (hw _ (List.mem_of_getElem? (i := 17) rfl)) (hw _ (List.mem_of_getElem? (i := 7) rfl)) (by decide) (by decide)) q69a q69c (g := (mkF m 333 #[.val (.int p0), .val (.int p1), .val (.int p2), .val (.int p3), .val (.int p4), .val (.int fr), .val (.int tt), .val (.ref b2), .val (.int (p3.toInt8.toInt32)), .val (.int kk), .val (.int ((p4 >>> ((8 : Int32) &&& 31)).toInt8.toInt32)), .val (.int z0), .val (.int z1), .val (.int z2), .val (.int z3), .val (.int bg), .unset, .unset, .unset, .unset, .unset, .unset, .unset, .unset] [(.int kk), (.ref c67), (.int (p3.toInt8.toInt32))])) rfl (by rw [hml]; rfl) (Steps.refl _) (argsL := [(.int kk)]) (rest := [(.int (p3.toInt8.toInt32))]) (lenOf pd_4 rfl) rfl (by show 2 * 0 + _ ≤ _; exact Nat.le_of_eq rfl) (hb hby at_333) (fun _ _ => ⟨rfl, e67, (by decide : 9 + 0 ≤ _), (by decide : 216 + 0 ≤ _)⟩)
          dsimp only [Pt.U, Pt.locs, Pt.cells, Pt.slots] at X69 l69 y69 z69 st69 hQ69
          subst l69 y69 z69
          obtain ⟨rfl, Nq69, eq69⟩ := hQ69
          have N69 := Fr.app N66 Nq69
          refine Runs.by (fun _ hr => st69.trans hr) ?_
          by_cases hc336 : (p3.toInt8.toInt32) = (own_cu kk)
          · -- pc 336: (p3.toInt8.toInt32) = (own_cu kk)
            refine Runs.by (fun _ hr => XS.icmpNo X69.here hx rfl (hb hby at_336) rfl (teq hc336).2 hr) ?_
            refine Runs.by (fun _ hr => XS.iconst X69.here hx rfl (hb hby at_339) hr) ?_
            show Runs p e below _ (T69.setTop (mkF m 340 #[.val (.int p0), .val (.int p1), .val (.int p2), .val (.int p3), .val (.int p4), .val (.int fr), .val (.int tt), .val (.ref b2), .val (.int (p3.toInt8.toInt32)), .val (.int kk), .val (.int ((p4 >>> ((8 : Int32) &&& 31)).toInt8.toInt32)), .val (.int z0), .val (.int z1), .val (.int z2), .val (.int z3), .val (.int bg), .unset, .unset, .unset, .unset, .unset, .unset, .unset, .unset] [(.int (1 : Int32))]))
            refine Runs.by (fun _ hr => XS.goto X69.here hx rfl (pc0 := 340) (pc' := 344) rfl (hb hby at_340) (by decide) (by decide) hr) ?_
            exact JN (1 : Int32) _ _ _ _ _ (X69.mono (by decide) (by decide)) eq69 N69 K68 O_K68 hC hS hk hZ hown   ((hNt ((own_lcb p3 hkl).mpr (Or.inr hc336))).trans (if_neg (by decide)).symm)
          · -- pc 336: not (p3.toInt8.toInt32) = (own_cu kk)
            refine Runs.by (fun _ hr => XS.icmpYes X69.here hx rfl (pc0 := 336) (pc' := 343) rfl (hb hby at_336) rfl (feq hc336).2 (by decide) (by decide) hr) ?_
            refine Runs.by (fun _ hr => XS.iconst X69.here hx rfl (hb hby at_343) hr) ?_
            exact JN (0 : Int32) _ _ _ _ _ (X69.mono (by decide) (by decide)) eq69 N69 K68 O_K68 hC hS hk hZ hown   ((hNf (fun q => ((own_lcb p3 hkl).mp q).elim hc324 hc336)).trans (if_pos rfl).symm)
      · -- pc 193: not kk < (11 : Int32)
        refine Runs.by (fun _ hr => XS.icmpYes XM.here hx rfl (pc0 := 193) (pc' := 206) rfl (hb hby at_193) rfl (flt hc193).2.1 (by decide) (by decide) hr) ?_
        refine Runs.by (fun _ hr => XS.iload XM.here hx rfl (hb hby at_206) rfl  hr) ?_
        show Runs p e below _ (T35.setTop (mkF m 208 #[.val (.int p0), .val (.int p1), .val (.int p2), .val (.int p3), .val (.int p4), .val (.int fr), .val (.int tt), .val (.ref b2), .val (.int (p3.toInt8.toInt32)), .val (.int kk), .unset, .unset, .unset, .unset, .unset, .unset, .unset, .unset, .unset, .unset, .unset, .unset, .unset, .unset] [(.int p4)]))
        refine Runs.by (fun _ hr => XS.bipush XM.here hx rfl (hb hby at_208) hr) ?_
        show Runs p e below _ (T35.setTop (mkF m 210 #[.val (.int p0), .val (.int p1), .val (.int p2), .val (.int p3), .val (.int p4), .val (.int fr), .val (.int tt), .val (.ref b2), .val (.int (p3.toInt8.toInt32)), .val (.int kk), .unset, .unset, .unset, .unset, .unset, .unset, .unset, .unset, .unset, .unset, .unset, .unset, .unset, .unset] [(.int (8 : Int32)), (.int p4)]))
        refine Runs.by (fun _ hr => XS.ishr XM.here hx rfl (hb hby at_210) rfl hr) ?_
        show Runs p e below _ (T35.setTop (mkF m 211 #[.val (.int p0), .val (.int p1), .val (.int p2), .val (.int p3), .val (.int p4), .val (.int fr), .val (.int tt), .val (.ref b2), .val (.int (p3.toInt8.toInt32)), .val (.int kk), .unset, .unset, .unset, .unset, .unset, .unset, .unset, .unset, .unset, .unset, .unset, .unset, .unset, .unset] [(.int (p4 >>> ((8 : Int32) &&& 31)))]))
        refine Runs.by (fun _ hr => XS.i2b XM.here hx rfl (hb hby at_211) rfl hr) ?_
        refine Runs.by (fun _ hr => XS.istore XM.here hx rfl (hb hby at_212) rfl (l' := #[.val (.int p0), .val (.int p1), .val (.int p2), .val (.int p3), .val (.int p4), .val (.int fr), .val (.int tt), .val (.ref b2), .val (.int (p3.toInt8.toInt32)), .val (.int kk), .val (.int ((p4 >>> ((8 : Int32) &&& 31)).toInt8.toInt32)), .unset, .unset, .unset, .unset, .unset, .unset, .unset, .unset, .unset, .unset, .unset, .unset, .unset]) rfl hr) ?_
        refine Runs.by (fun _ hr => XS.iload XM.here hx rfl (hb hby at_214) rfl  hr) ?_
        show Runs p e below _ (T35.setTop (mkF m 216 #[.val (.int p0), .val (.int p1), .val (.int p2), .val (.int p3), .val (.int p4), .val (.int fr), .val (.int tt), .val (.ref b2), .val (.int (p3.toInt8.toInt32)), .val (.int kk), .val (.int ((p4 >>> ((8 : Int32) &&& 31)).toInt8.toInt32)), .unset, .unset, .unset, .unset, .unset, .unset, .unset, .unset, .unset, .unset, .unset, .unset, .unset] [(.int p4)]))
        refine Runs.by (fun _ hr => XS.iload XM.here hx rfl (hb hby at_216) rfl  hr) ?_
        show Runs p e below _ (T35.setTop (mkF m 218 #[.val (.int p0), .val (.int p1), .val (.int p2), .val (.int p3), .val (.int p4), .val (.int fr), .val (.int tt), .val (.ref b2), .val (.int (p3.toInt8.toInt32)), .val (.int kk), .val (.int ((p4 >>> ((8 : Int32) &&& 31)).toInt8.toInt32)), .unset, .unset, .unset, .unset, .unset, .unset, .unset, .unset, .unset, .unset, .unset, .unset, .unset] [(.int ((p4 >>> ((8 : Int32) &&& 31)).toInt8.toInt32)), (.int p4)]))
        obtain ⟨_, _, ⟨T70, L70, k70, n70⟩, -, X70, ⟨Lc70, hQ70, l70, y70, z70⟩, st70⟩ := Jvm.LawKit.callS XM hx (y := (⟨"com/example/word_odds/wordodds/filter/VerdictFieldBeginsPinLaw", "suffixByte", "(IB)B"⟩ : MethodName)) hown (mvT hZ (hw _ (List.mem_of_getElem? (i := 39) rfl))) (mvT hZ (hw _ (List.mem_of_getElem? (i := 40) rfl))) (mvT hZ (hw _ (List.mem_of_getElem? (i := 4) rfl))) (mvT hZ (hw _ (List.mem_of_getElem? (i := 41) rfl))) (by decide) (backOf (W := 0) (rm7 l Z a0 hw [] p4 ((p4 >>> ((8 : Int32) &&& 31)).toInt8.toInt32)  h35 n0 (Nat.le_trans Z0 K36.1) (own_b8 _)) hZ (hw _ (List.mem_of_getElem? (i := 41) rfl)) (hw _ (List.mem_of_getElem? (i := 4) rfl)) (by decide) (by decide)) (g := (mkF m 218 #[.val (.int p0), .val (.int p1), .val (.int p2), .val (.int p3), .val (.int p4), .val (.int fr), .val (.int tt), .val (.ref b2), .val (.int (p3.toInt8.toInt32)), .val (.int kk), .val (.int ((p4 >>> ((8 : Int32) &&& 31)).toInt8.toInt32)), .unset, .unset, .unset, .unset, .unset, .unset, .unset, .unset, .unset, .unset, .unset, .unset, .unset] [(.int ((p4 >>> ((8 : Int32) &&& 31)).toInt8.toInt32)), (.int p4)])) rfl (by rw [hml]; rfl) (argsL := [(.int p4), (.int ((p4 >>> ((8 : Int32) &&& 31)).toInt8.toInt32))]) (rest := []) (lenOf pd_7 rfl) rfl (by show 2 * 0 + _ ≤ _; exact Nat.le_of_eq rfl) (hb hby at_218) (fun _ _ => ⟨rfl, e35, (by decide : 5 + 0 ≤ _), (by decide : 120 + 0 ≤ _)⟩)
        dsimp only [Pt.U, Pt.locs, Pt.cells, Pt.slots] at X70 l70 y70 z70 st70 hQ70
        subst l70 y70 z70
        obtain ⟨rfl, Nq70, eq70⟩ := hQ70
        have N70 := Fr.app N35 Nq70
        refine Runs.by (fun t hr => st70 t hr) ?_
        have hz0 : (own_sf p4 ((p4 >>> ((8 : Int32) &&& 31)).toInt8.toInt32)).toInt8.toInt32 = own_sf p4 ((p4 >>> ((8 : Int32) &&& 31)).toInt8.toInt32) := own_sf8 (own_b8 _)
        generalize own_sf p4 ((p4 >>> ((8 : Int32) &&& 31)).toInt8.toInt32) = z0 at hz0 ⊢
        refine Runs.by (fun _ hr => XS.istore X70.here hx rfl (hb hby at_221) rfl (l' := #[.val (.int p0), .val (.int p1), .val (.int p2), .val (.int p3), .val (.int p4), .val (.int fr), .val (.int tt), .val (.ref b2), .val (.int (p3.toInt8.toInt32)), .val (.int kk), .val (.int ((p4 >>> ((8 : Int32) &&& 31)).toInt8.toInt32)), .val (.int z0), .unset, .unset, .unset, .unset, .unset, .unset, .unset, .unset, .unset, .unset, .unset, .unset]) rfl hr) ?_
        refine Runs.by (fun _ hr => XS.iload X70.here hx rfl (hb hby at_223) rfl  hr) ?_
        show Runs p e below _ (T70.setTop (mkF m 225 #[.val (.int p0), .val (.int p1), .val (.int p2), .val (.int p3), .val (.int p4), .val (.int fr), .val (.int tt), .val (.ref b2), .val (.int (p3.toInt8.toInt32)), .val (.int kk), .val (.int ((p4 >>> ((8 : Int32) &&& 31)).toInt8.toInt32)), .val (.int z0), .unset, .unset, .unset, .unset, .unset, .unset, .unset, .unset, .unset, .unset, .unset, .unset] [(.int p4)]))
        refine Runs.by (fun _ hr => XS.iconst X70.here hx rfl (hb hby at_225) hr) ?_
        show Runs p e below _ (T70.setTop (mkF m 226 #[.val (.int p0), .val (.int p1), .val (.int p2), .val (.int p3), .val (.int p4), .val (.int fr), .val (.int tt), .val (.ref b2), .val (.int (p3.toInt8.toInt32)), .val (.int kk), .val (.int ((p4 >>> ((8 : Int32) &&& 31)).toInt8.toInt32)), .val (.int z0), .unset, .unset, .unset, .unset, .unset, .unset, .unset, .unset, .unset, .unset, .unset, .unset] [(.int (2 : Int32)), (.int p4)]))
        refine Runs.by (fun _ hr => XS.ishr X70.here hx rfl (hb hby at_226) rfl hr) ?_
        refine Runs.by (fun _ hr => XS.iload X70.here hx rfl (hb hby at_227) rfl  hr) ?_
        show Runs p e below _ (T70.setTop (mkF m 229 #[.val (.int p0), .val (.int p1), .val (.int p2), .val (.int p3), .val (.int p4), .val (.int fr), .val (.int tt), .val (.ref b2), .val (.int (p3.toInt8.toInt32)), .val (.int kk), .val (.int ((p4 >>> ((8 : Int32) &&& 31)).toInt8.toInt32)), .val (.int z0), .unset, .unset, .unset, .unset, .unset, .unset, .unset, .unset, .unset, .unset, .unset, .unset] [(.int ((p4 >>> ((8 : Int32) &&& 31)).toInt8.toInt32)), (.int (p4 >>> ((2 : Int32) &&& 31)))]))
        obtain ⟨_, _, ⟨T71, L71, k71, n71⟩, -, X71, ⟨Lc71, hQ71, l71, y71, z71⟩, st71⟩ := Jvm.LawKit.callS X70 hx (y := (⟨"com/example/word_odds/wordodds/filter/VerdictFieldBeginsPinLaw", "suffixByte", "(IB)B"⟩ : MethodName)) hown (mvT hZ (hw _ (List.mem_of_getElem? (i := 39) rfl))) (mvT hZ (hw _ (List.mem_of_getElem? (i := 40) rfl))) (mvT hZ (hw _ (List.mem_of_getElem? (i := 4) rfl))) (mvT hZ (hw _ (List.mem_of_getElem? (i := 41) rfl))) (by decide) (backOf (W := 0) (rm7 l Z a0 hw [] (p4 >>> ((2 : Int32) &&& 31)) ((p4 >>> ((8 : Int32) &&& 31)).toInt8.toInt32)  h35 n0 (Nat.le_trans Z0 K36.1) (own_b8 _)) hZ (hw _ (List.mem_of_getElem? (i := 41) rfl)) (hw _ (List.mem_of_getElem? (i := 4) rfl)) (by decide) (by decide)) (g := (mkF m 229 #[.val (.int p0), .val (.int p1), .val (.int p2), .val (.int p3), .val (.int p4), .val (.int fr), .val (.int tt), .val (.ref b2), .val (.int (p3.toInt8.toInt32)), .val (.int kk), .val (.int ((p4 >>> ((8 : Int32) &&& 31)).toInt8.toInt32)), .val (.int z0), .unset, .unset, .unset, .unset, .unset, .unset, .unset, .unset, .unset, .unset, .unset, .unset] [(.int ((p4 >>> ((8 : Int32) &&& 31)).toInt8.toInt32)), (.int (p4 >>> ((2 : Int32) &&& 31)))])) rfl (by rw [hml]; rfl) (argsL := [(.int (p4 >>> ((2 : Int32) &&& 31))), (.int ((p4 >>> ((8 : Int32) &&& 31)).toInt8.toInt32))]) (rest := []) (lenOf pd_7 rfl) rfl (by show 2 * 0 + _ ≤ _; exact Nat.le_of_eq rfl) (hb hby at_229) (fun _ _ => ⟨rfl, eq70, (by decide : 5 + 0 ≤ _), (by decide : 120 + 0 ≤ _)⟩)
        dsimp only [Pt.U, Pt.locs, Pt.cells, Pt.slots] at X71 l71 y71 z71 st71 hQ71
        subst l71 y71 z71
        obtain ⟨rfl, Nq71, eq71⟩ := hQ71
        have N71 := Fr.app N70 Nq71
        refine Runs.by (fun t hr => st71 t hr) ?_
        have hz1 : (own_sf (p4 >>> ((2 : Int32) &&& 31)) ((p4 >>> ((8 : Int32) &&& 31)).toInt8.toInt32)).toInt8.toInt32 = own_sf (p4 >>> ((2 : Int32) &&& 31)) ((p4 >>> ((8 : Int32) &&& 31)).toInt8.toInt32) := own_sf8 (own_b8 _)
        generalize own_sf (p4 >>> ((2 : Int32) &&& 31)) ((p4 >>> ((8 : Int32) &&& 31)).toInt8.toInt32) = z1 at hz1 ⊢
        refine Runs.by (fun _ hr => XS.istore X71.here hx rfl (hb hby at_232) rfl (l' := #[.val (.int p0), .val (.int p1), .val (.int p2), .val (.int p3), .val (.int p4), .val (.int fr), .val (.int tt), .val (.ref b2), .val (.int (p3.toInt8.toInt32)), .val (.int kk), .val (.int ((p4 >>> ((8 : Int32) &&& 31)).toInt8.toInt32)), .val (.int z0), .val (.int z1), .unset, .unset, .unset, .unset, .unset, .unset, .unset, .unset, .unset, .unset, .unset]) rfl hr) ?_
        refine Runs.by (fun _ hr => XS.iload X71.here hx rfl (hb hby at_234) rfl  hr) ?_
        show Runs p e below _ (T71.setTop (mkF m 236 #[.val (.int p0), .val (.int p1), .val (.int p2), .val (.int p3), .val (.int p4), .val (.int fr), .val (.int tt), .val (.ref b2), .val (.int (p3.toInt8.toInt32)), .val (.int kk), .val (.int ((p4 >>> ((8 : Int32) &&& 31)).toInt8.toInt32)), .val (.int z0), .val (.int z1), .unset, .unset, .unset, .unset, .unset, .unset, .unset, .unset, .unset, .unset, .unset] [(.int p4)]))
        refine Runs.by (fun _ hr => XS.iconst X71.here hx rfl (hb hby at_236) hr) ?_
        show Runs p e below _ (T71.setTop (mkF m 237 #[.val (.int p0), .val (.int p1), .val (.int p2), .val (.int p3), .val (.int p4), .val (.int fr), .val (.int tt), .val (.ref b2), .val (.int (p3.toInt8.toInt32)), .val (.int kk), .val (.int ((p4 >>> ((8 : Int32) &&& 31)).toInt8.toInt32)), .val (.int z0), .val (.int z1), .unset, .unset, .unset, .unset, .unset, .unset, .unset, .unset, .unset, .unset, .unset] [(.int (4 : Int32)), (.int p4)]))
        refine Runs.by (fun _ hr => XS.ishr X71.here hx rfl (hb hby at_237) rfl hr) ?_
        refine Runs.by (fun _ hr => XS.iload X71.here hx rfl (hb hby at_238) rfl  hr) ?_
        show Runs p e below _ (T71.setTop (mkF m 240 #[.val (.int p0), .val (.int p1), .val (.int p2), .val (.int p3), .val (.int p4), .val (.int fr), .val (.int tt), .val (.ref b2), .val (.int (p3.toInt8.toInt32)), .val (.int kk), .val (.int ((p4 >>> ((8 : Int32) &&& 31)).toInt8.toInt32)), .val (.int z0), .val (.int z1), .unset, .unset, .unset, .unset, .unset, .unset, .unset, .unset, .unset, .unset, .unset] [(.int ((p4 >>> ((8 : Int32) &&& 31)).toInt8.toInt32)), (.int (p4 >>> ((4 : Int32) &&& 31)))]))
        obtain ⟨_, _, ⟨T72, L72, k72, n72⟩, -, X72, ⟨Lc72, hQ72, l72, y72, z72⟩, st72⟩ := Jvm.LawKit.callS X71 hx (y := (⟨"com/example/word_odds/wordodds/filter/VerdictFieldBeginsPinLaw", "suffixByte", "(IB)B"⟩ : MethodName)) hown (mvT hZ (hw _ (List.mem_of_getElem? (i := 39) rfl))) (mvT hZ (hw _ (List.mem_of_getElem? (i := 40) rfl))) (mvT hZ (hw _ (List.mem_of_getElem? (i := 4) rfl))) (mvT hZ (hw _ (List.mem_of_getElem? (i := 41) rfl))) (by decide) (backOf (W := 0) (rm7 l Z a0 hw [] (p4 >>> ((4 : Int32) &&& 31)) ((p4 >>> ((8 : Int32) &&& 31)).toInt8.toInt32)  h35 n0 (Nat.le_trans Z0 K36.1) (own_b8 _)) hZ (hw _ (List.mem_of_getElem? (i := 41) rfl)) (hw _ (List.mem_of_getElem? (i := 4) rfl)) (by decide) (by decide)) (g := (mkF m 240 #[.val (.int p0), .val (.int p1), .val (.int p2), .val (.int p3), .val (.int p4), .val (.int fr), .val (.int tt), .val (.ref b2), .val (.int (p3.toInt8.toInt32)), .val (.int kk), .val (.int ((p4 >>> ((8 : Int32) &&& 31)).toInt8.toInt32)), .val (.int z0), .val (.int z1), .unset, .unset, .unset, .unset, .unset, .unset, .unset, .unset, .unset, .unset, .unset] [(.int ((p4 >>> ((8 : Int32) &&& 31)).toInt8.toInt32)), (.int (p4 >>> ((4 : Int32) &&& 31)))])) rfl (by rw [hml]; rfl) (argsL := [(.int (p4 >>> ((4 : Int32) &&& 31))), (.int ((p4 >>> ((8 : Int32) &&& 31)).toInt8.toInt32))]) (rest := []) (lenOf pd_7 rfl) rfl (by show 2 * 0 + _ ≤ _; exact Nat.le_of_eq rfl) (hb hby at_240) (fun _ _ => ⟨rfl, eq71, (by decide : 5 + 0 ≤ _), (by decide : 120 + 0 ≤ _)⟩)
        dsimp only [Pt.U, Pt.locs, Pt.cells, Pt.slots] at X72 l72 y72 z72 st72 hQ72
        subst l72 y72 z72
        obtain ⟨rfl, Nq72, eq72⟩ := hQ72
        have N72 := Fr.app N71 Nq72
        refine Runs.by (fun t hr => st72 t hr) ?_
        have hz2 : (own_sf (p4 >>> ((4 : Int32) &&& 31)) ((p4 >>> ((8 : Int32) &&& 31)).toInt8.toInt32)).toInt8.toInt32 = own_sf (p4 >>> ((4 : Int32) &&& 31)) ((p4 >>> ((8 : Int32) &&& 31)).toInt8.toInt32) := own_sf8 (own_b8 _)
        generalize own_sf (p4 >>> ((4 : Int32) &&& 31)) ((p4 >>> ((8 : Int32) &&& 31)).toInt8.toInt32) = z2 at hz2 ⊢
        refine Runs.by (fun _ hr => XS.istore X72.here hx rfl (hb hby at_243) rfl (l' := #[.val (.int p0), .val (.int p1), .val (.int p2), .val (.int p3), .val (.int p4), .val (.int fr), .val (.int tt), .val (.ref b2), .val (.int (p3.toInt8.toInt32)), .val (.int kk), .val (.int ((p4 >>> ((8 : Int32) &&& 31)).toInt8.toInt32)), .val (.int z0), .val (.int z1), .val (.int z2), .unset, .unset, .unset, .unset, .unset, .unset, .unset, .unset, .unset, .unset]) rfl hr) ?_
        refine Runs.by (fun _ hr => XS.iload X72.here hx rfl (hb hby at_245) rfl  hr) ?_
        show Runs p e below _ (T72.setTop (mkF m 247 #[.val (.int p0), .val (.int p1), .val (.int p2), .val (.int p3), .val (.int p4), .val (.int fr), .val (.int tt), .val (.ref b2), .val (.int (p3.toInt8.toInt32)), .val (.int kk), .val (.int ((p4 >>> ((8 : Int32) &&& 31)).toInt8.toInt32)), .val (.int z0), .val (.int z1), .val (.int z2), .unset, .unset, .unset, .unset, .unset, .unset, .unset, .unset, .unset, .unset] [(.int p4)]))
        refine Runs.by (fun _ hr => XS.bipush X72.here hx rfl (hb hby at_247) hr) ?_
        show Runs p e below _ (T72.setTop (mkF m 249 #[.val (.int p0), .val (.int p1), .val (.int p2), .val (.int p3), .val (.int p4), .val (.int fr), .val (.int tt), .val (.ref b2), .val (.int (p3.toInt8.toInt32)), .val (.int kk), .val (.int ((p4 >>> ((8 : Int32) &&& 31)).toInt8.toInt32)), .val (.int z0), .val (.int z1), .val (.int z2), .unset, .unset, .unset, .unset, .unset, .unset, .unset, .unset, .unset, .unset] [(.int (6 : Int32)), (.int p4)]))
        refine Runs.by (fun _ hr => XS.ishr X72.here hx rfl (hb hby at_249) rfl hr) ?_
        refine Runs.by (fun _ hr => XS.iload X72.here hx rfl (hb hby at_250) rfl  hr) ?_
        show Runs p e below _ (T72.setTop (mkF m 252 #[.val (.int p0), .val (.int p1), .val (.int p2), .val (.int p3), .val (.int p4), .val (.int fr), .val (.int tt), .val (.ref b2), .val (.int (p3.toInt8.toInt32)), .val (.int kk), .val (.int ((p4 >>> ((8 : Int32) &&& 31)).toInt8.toInt32)), .val (.int z0), .val (.int z1), .val (.int z2), .unset, .unset, .unset, .unset, .unset, .unset, .unset, .unset, .unset, .unset] [(.int ((p4 >>> ((8 : Int32) &&& 31)).toInt8.toInt32)), (.int (p4 >>> ((6 : Int32) &&& 31)))]))
        obtain ⟨_, _, ⟨T73, L73, k73, n73⟩, -, X73, ⟨Lc73, hQ73, l73, y73, z73⟩, st73⟩ := Jvm.LawKit.callS X72 hx (y := (⟨"com/example/word_odds/wordodds/filter/VerdictFieldBeginsPinLaw", "suffixByte", "(IB)B"⟩ : MethodName)) hown (mvT hZ (hw _ (List.mem_of_getElem? (i := 39) rfl))) (mvT hZ (hw _ (List.mem_of_getElem? (i := 40) rfl))) (mvT hZ (hw _ (List.mem_of_getElem? (i := 4) rfl))) (mvT hZ (hw _ (List.mem_of_getElem? (i := 41) rfl))) (by decide) (backOf (W := 0) (rm7 l Z a0 hw [] (p4 >>> ((6 : Int32) &&& 31)) ((p4 >>> ((8 : Int32) &&& 31)).toInt8.toInt32)  h35 n0 (Nat.le_trans Z0 K36.1) (own_b8 _)) hZ (hw _ (List.mem_of_getElem? (i := 41) rfl)) (hw _ (List.mem_of_getElem? (i := 4) rfl)) (by decide) (by decide)) (g := (mkF m 252 #[.val (.int p0), .val (.int p1), .val (.int p2), .val (.int p3), .val (.int p4), .val (.int fr), .val (.int tt), .val (.ref b2), .val (.int (p3.toInt8.toInt32)), .val (.int kk), .val (.int ((p4 >>> ((8 : Int32) &&& 31)).toInt8.toInt32)), .val (.int z0), .val (.int z1), .val (.int z2), .unset, .unset, .unset, .unset, .unset, .unset, .unset, .unset, .unset, .unset] [(.int ((p4 >>> ((8 : Int32) &&& 31)).toInt8.toInt32)), (.int (p4 >>> ((6 : Int32) &&& 31)))])) rfl (by rw [hml]; rfl) (argsL := [(.int (p4 >>> ((6 : Int32) &&& 31))), (.int ((p4 >>> ((8 : Int32) &&& 31)).toInt8.toInt32))]) (rest := []) (lenOf pd_7 rfl) rfl (by show 2 * 0 + _ ≤ _; exact Nat.le_of_eq rfl) (hb hby at_252) (fun _ _ => ⟨rfl, eq72, (by decide : 5 + 0 ≤ _), (by decide : 120 + 0 ≤ _)⟩)
        dsimp only [Pt.U, Pt.locs, Pt.cells, Pt.slots] at X73 l73 y73 z73 st73 hQ73
        subst l73 y73 z73
        obtain ⟨rfl, Nq73, eq73⟩ := hQ73
        have N73 := Fr.app N72 Nq73
        refine Runs.by (fun t hr => st73 t hr) ?_
        have hz3 : (own_sf (p4 >>> ((6 : Int32) &&& 31)) ((p4 >>> ((8 : Int32) &&& 31)).toInt8.toInt32)).toInt8.toInt32 = own_sf (p4 >>> ((6 : Int32) &&& 31)) ((p4 >>> ((8 : Int32) &&& 31)).toInt8.toInt32) := own_sf8 (own_b8 _)
        generalize own_sf (p4 >>> ((6 : Int32) &&& 31)) ((p4 >>> ((8 : Int32) &&& 31)).toInt8.toInt32) = z3 at hz3 ⊢
        refine Runs.by (fun _ hr => XS.istore X73.here hx rfl (hb hby at_255) rfl (l' := #[.val (.int p0), .val (.int p1), .val (.int p2), .val (.int p3), .val (.int p4), .val (.int fr), .val (.int tt), .val (.ref b2), .val (.int (p3.toInt8.toInt32)), .val (.int kk), .val (.int ((p4 >>> ((8 : Int32) &&& 31)).toInt8.toInt32)), .val (.int z0), .val (.int z1), .val (.int z2), .val (.int z3), .unset, .unset, .unset, .unset, .unset, .unset, .unset, .unset, .unset]) rfl hr) ?_
        refine Runs.by (fun _ hr => XS.aload X73.here hx rfl (hb hby at_257) rfl rfl hr) ?_
        show Runs p e below _ (T73.setTop (mkF m 259 #[.val (.int p0), .val (.int p1), .val (.int p2), .val (.int p3), .val (.int p4), .val (.int fr), .val (.int tt), .val (.ref b2), .val (.int (p3.toInt8.toInt32)), .val (.int kk), .val (.int ((p4 >>> ((8 : Int32) &&& 31)).toInt8.toInt32)), .val (.int z0), .val (.int z1), .val (.int z2), .val (.int z3), .unset, .unset, .unset, .unset, .unset, .unset, .unset, .unset, .unset] [(.ref b2)]))
        refine Runs.by (fun _ hr => XS.iload X73.here hx rfl (hb hby at_259) rfl  hr) ?_
        refine Runs.by (fun _ hr => XS.bipush X73.here hx rfl (hb hby at_261) hr) ?_
        refine Runs.by (fun _ hr => XS.iadd X73.here hx rfl (hb hby at_263) rfl hr) ?_
        show Runs p e below _ (T73.setTop (mkF m 264 #[.val (.int p0), .val (.int p1), .val (.int p2), .val (.int p3), .val (.int p4), .val (.int fr), .val (.int tt), .val (.ref b2), .val (.int (p3.toInt8.toInt32)), .val (.int kk), .val (.int ((p4 >>> ((8 : Int32) &&& 31)).toInt8.toInt32)), .val (.int z0), .val (.int z1), .val (.int z2), .val (.int z3), .unset, .unset, .unset, .unset, .unset, .unset, .unset, .unset, .unset] [(.int (fr + (11 : Int32))), (.ref b2)]))
        refine Runs.by (fun _ hr => XS.iload X73.here hx rfl (hb hby at_264) rfl  hr) ?_
        show Runs p e below _ (T73.setTop (mkF m 266 #[.val (.int p0), .val (.int p1), .val (.int p2), .val (.int p3), .val (.int p4), .val (.int fr), .val (.int tt), .val (.ref b2), .val (.int (p3.toInt8.toInt32)), .val (.int kk), .val (.int ((p4 >>> ((8 : Int32) &&& 31)).toInt8.toInt32)), .val (.int z0), .val (.int z1), .val (.int z2), .val (.int z3), .unset, .unset, .unset, .unset, .unset, .unset, .unset, .unset, .unset] [(.int z0), (.int (fr + (11 : Int32))), (.ref b2)]))
        obtain ⟨cl74, Ar74, q74, S74, N74', H74⟩ := id G35
        have ix74 := own_ix (j := (fr + (11 : Int32))) (z := (24 : Int32)) (n := f + 11) (own_ad hf h3 (n := 11) (by decide) (by decide)) (own_ad24 hf h3 (n := 11) (by decide) (by decide))
        have hin74 : ¬ ((fr + (11 : Int32)) < 0 ∨ cl74.slots.size ≤ ((fr + (11 : Int32))).toNatClampNeg) := inb_of S74 ix74.1
        obtain ⟨T74, h74, X74, e74, W74, st74⟩ := stB X73 hx hZ eq73 Ar74 (j := (fr + (11 : Int32))) hin74 (g := (mkF m 266 #[.val (.int p0), .val (.int p1), .val (.int p2), .val (.int p3), .val (.int p4), .val (.int fr), .val (.int tt), .val (.ref b2), .val (.int (p3.toInt8.toInt32)), .val (.int kk), .val (.int ((p4 >>> ((8 : Int32) &&& 31)).toInt8.toInt32)), .val (.int z0), .val (.int z1), .val (.int z2), .val (.int z3), .unset, .unset, .unset, .unset, .unset, .unset, .unset, .unset, .unset] [(.int z0), (.int (fr + (11 : Int32))), (.ref b2)])) rfl rfl (hb hby at_266)
        have G74 : Arf Z h74 b2 k2 .byte (24 : Int32) (fun j_ => .int ((own_up (own_up wl10 (f + 10) (nar .byte nb10)) (f + 11) (nar .byte z0)) j_)) := (Arf.set Ar74 q74 S74 N74' H74 W74 ix74.2.1).cast (fun j_ _ => own_up_map Value.int _ _ _ j_)
        have K75 : Keep h0 h74 [] := K36.wr W74 (Or.inr sz_b2)
        have O_75 : Old Z n0 h74 := O_36.wr W74 g_b2
        have Sf34_b2__K75 := Safe.wr W74 Sf34_b2__K36 hC.1 Sf34_b2__K36
        have hk : _ ≤ h74.size := Nat.le_trans hk (Keep.of_wr W74).1
        have hC := hC.trans (CHr.wr W74 Sf34_b2__K36 hC.1)
        have N74 := Fr.snoc X74 N73 g_b2
        refine Runs.by st74 ?_
        refine Runs.by (fun _ hr => XS.aload X74.here hx rfl (hb hby at_267) rfl rfl hr) ?_
        refine Runs.by (fun _ hr => XS.iload X74.here hx rfl (hb hby at_269) rfl  hr) ?_
        show Runs p e below _ (T74.setTop (mkF m 271 #[.val (.int p0), .val (.int p1), .val (.int p2), .val (.int p3), .val (.int p4), .val (.int fr), .val (.int tt), .val (.ref b2), .val (.int (p3.toInt8.toInt32)), .val (.int kk), .val (.int ((p4 >>> ((8 : Int32) &&& 31)).toInt8.toInt32)), .val (.int z0), .val (.int z1), .val (.int z2), .val (.int z3), .unset, .unset, .unset, .unset, .unset, .unset, .unset, .unset, .unset] [(.int fr), (.ref b2)]))
        refine Runs.by (fun _ hr => XS.bipush X74.here hx rfl (hb hby at_271) hr) ?_
        refine Runs.by (fun _ hr => XS.iadd X74.here hx rfl (hb hby at_273) rfl hr) ?_
        refine Runs.by (fun _ hr => XS.iload X74.here hx rfl (hb hby at_274) rfl  hr) ?_
        show Runs p e below _ (T74.setTop (mkF m 276 #[.val (.int p0), .val (.int p1), .val (.int p2), .val (.int p3), .val (.int p4), .val (.int fr), .val (.int tt), .val (.ref b2), .val (.int (p3.toInt8.toInt32)), .val (.int kk), .val (.int ((p4 >>> ((8 : Int32) &&& 31)).toInt8.toInt32)), .val (.int z0), .val (.int z1), .val (.int z2), .val (.int z3), .unset, .unset, .unset, .unset, .unset, .unset, .unset, .unset, .unset] [(.int z1), (.int (fr + (12 : Int32))), (.ref b2)]))
        obtain ⟨cl76, Ar76, q76, S76, N76', H76⟩ := id G74
        have ix76 := own_ix (j := (fr + (12 : Int32))) (z := (24 : Int32)) (n := f + 12) (own_ad hf h3 (n := 12) (by decide) (by decide)) (own_ad24 hf h3 (n := 12) (by decide) (by decide))
        have hin76 : ¬ ((fr + (12 : Int32)) < 0 ∨ cl76.slots.size ≤ ((fr + (12 : Int32))).toNatClampNeg) := inb_of S76 ix76.1
        obtain ⟨T76, h76, X76, e76, W76, st76⟩ := stB X74 hx hZ e74 Ar76 (j := (fr + (12 : Int32))) hin76 (g := (mkF m 276 #[.val (.int p0), .val (.int p1), .val (.int p2), .val (.int p3), .val (.int p4), .val (.int fr), .val (.int tt), .val (.ref b2), .val (.int (p3.toInt8.toInt32)), .val (.int kk), .val (.int ((p4 >>> ((8 : Int32) &&& 31)).toInt8.toInt32)), .val (.int z0), .val (.int z1), .val (.int z2), .val (.int z3), .unset, .unset, .unset, .unset, .unset, .unset, .unset, .unset, .unset] [(.int z1), (.int (fr + (12 : Int32))), (.ref b2)])) rfl rfl (hb hby at_276)
        have G76 : Arf Z h76 b2 k2 .byte (24 : Int32) (fun j_ => .int ((own_up (own_up (own_up wl10 (f + 10) (nar .byte nb10)) (f + 11) (nar .byte z0)) (f + 12) (nar .byte z1)) j_)) := (Arf.set Ar76 q76 S76 N76' H76 W76 ix76.2.1).cast (fun j_ _ => own_up_map Value.int _ _ _ j_)
        have K77 : Keep h0 h76 [] := K75.wr W76 (Or.inr sz_b2)
        have O_77 : Old Z n0 h76 := O_75.wr W76 g_b2
        have Sf34_b2__K77 := Safe.wr W76 Sf34_b2__K75 hC.1 Sf34_b2__K75
        have hk : _ ≤ h76.size := Nat.le_trans hk (Keep.of_wr W76).1
        have hC := hC.trans (CHr.wr W76 Sf34_b2__K75 hC.1)
        have N76 := Fr.snoc X76 N74 g_b2
        refine Runs.by st76 ?_
        refine Runs.by (fun _ hr => XS.aload X76.here hx rfl (hb hby at_277) rfl rfl hr) ?_
        refine Runs.by (fun _ hr => XS.iload X76.here hx rfl (hb hby at_279) rfl  hr) ?_
        show Runs p e below _ (T76.setTop (mkF m 281 #[.val (.int p0), .val (.int p1), .val (.int p2), .val (.int p3), .val (.int p4), .val (.int fr), .val (.int tt), .val (.ref b2), .val (.int (p3.toInt8.toInt32)), .val (.int kk), .val (.int ((p4 >>> ((8 : Int32) &&& 31)).toInt8.toInt32)), .val (.int z0), .val (.int z1), .val (.int z2), .val (.int z3), .unset, .unset, .unset, .unset, .unset, .unset, .unset, .unset, .unset] [(.int fr), (.ref b2)]))
        refine Runs.by (fun _ hr => XS.bipush X76.here hx rfl (hb hby at_281) hr) ?_
        refine Runs.by (fun _ hr => XS.iadd X76.here hx rfl (hb hby at_283) rfl hr) ?_
        refine Runs.by (fun _ hr => XS.iload X76.here hx rfl (hb hby at_284) rfl  hr) ?_
        show Runs p e below _ (T76.setTop (mkF m 286 #[.val (.int p0), .val (.int p1), .val (.int p2), .val (.int p3), .val (.int p4), .val (.int fr), .val (.int tt), .val (.ref b2), .val (.int (p3.toInt8.toInt32)), .val (.int kk), .val (.int ((p4 >>> ((8 : Int32) &&& 31)).toInt8.toInt32)), .val (.int z0), .val (.int z1), .val (.int z2), .val (.int z3), .unset, .unset, .unset, .unset, .unset, .unset, .unset, .unset, .unset] [(.int z2), (.int (fr + (13 : Int32))), (.ref b2)]))
        obtain ⟨cl78, Ar78, q78, S78, N78', H78⟩ := id G76
        have ix78 := own_ix (j := (fr + (13 : Int32))) (z := (24 : Int32)) (n := f + 13) (own_ad hf h3 (n := 13) (by decide) (by decide)) (own_ad24 hf h3 (n := 13) (by decide) (by decide))
        have hin78 : ¬ ((fr + (13 : Int32)) < 0 ∨ cl78.slots.size ≤ ((fr + (13 : Int32))).toNatClampNeg) := inb_of S78 ix78.1
        obtain ⟨T78, h78, X78, e78, W78, st78⟩ := stB X76 hx hZ e76 Ar78 (j := (fr + (13 : Int32))) hin78 (g := (mkF m 286 #[.val (.int p0), .val (.int p1), .val (.int p2), .val (.int p3), .val (.int p4), .val (.int fr), .val (.int tt), .val (.ref b2), .val (.int (p3.toInt8.toInt32)), .val (.int kk), .val (.int ((p4 >>> ((8 : Int32) &&& 31)).toInt8.toInt32)), .val (.int z0), .val (.int z1), .val (.int z2), .val (.int z3), .unset, .unset, .unset, .unset, .unset, .unset, .unset, .unset, .unset] [(.int z2), (.int (fr + (13 : Int32))), (.ref b2)])) rfl rfl (hb hby at_286)
        have G78 : Arf Z h78 b2 k2 .byte (24 : Int32) (fun j_ => .int ((own_up (own_up (own_up (own_up wl10 (f + 10) (nar .byte nb10)) (f + 11) (nar .byte z0)) (f + 12) (nar .byte z1)) (f + 13) (nar .byte z2)) j_)) := (Arf.set Ar78 q78 S78 N78' H78 W78 ix78.2.1).cast (fun j_ _ => own_up_map Value.int _ _ _ j_)
        have K79 : Keep h0 h78 [] := K77.wr W78 (Or.inr sz_b2)
        have O_79 : Old Z n0 h78 := O_77.wr W78 g_b2
        have Sf34_b2__K79 := Safe.wr W78 Sf34_b2__K77 hC.1 Sf34_b2__K77
        have hk : _ ≤ h78.size := Nat.le_trans hk (Keep.of_wr W78).1
        have hC := hC.trans (CHr.wr W78 Sf34_b2__K77 hC.1)
        have N78 := Fr.snoc X78 N76 g_b2
        refine Runs.by st78 ?_
        refine Runs.by (fun _ hr => XS.aload X78.here hx rfl (hb hby at_287) rfl rfl hr) ?_
        refine Runs.by (fun _ hr => XS.iload X78.here hx rfl (hb hby at_289) rfl  hr) ?_
        show Runs p e below _ (T78.setTop (mkF m 291 #[.val (.int p0), .val (.int p1), .val (.int p2), .val (.int p3), .val (.int p4), .val (.int fr), .val (.int tt), .val (.ref b2), .val (.int (p3.toInt8.toInt32)), .val (.int kk), .val (.int ((p4 >>> ((8 : Int32) &&& 31)).toInt8.toInt32)), .val (.int z0), .val (.int z1), .val (.int z2), .val (.int z3), .unset, .unset, .unset, .unset, .unset, .unset, .unset, .unset, .unset] [(.int fr), (.ref b2)]))
        refine Runs.by (fun _ hr => XS.bipush X78.here hx rfl (hb hby at_291) hr) ?_
        refine Runs.by (fun _ hr => XS.iadd X78.here hx rfl (hb hby at_293) rfl hr) ?_
        refine Runs.by (fun _ hr => XS.iload X78.here hx rfl (hb hby at_294) rfl  hr) ?_
        show Runs p e below _ (T78.setTop (mkF m 296 #[.val (.int p0), .val (.int p1), .val (.int p2), .val (.int p3), .val (.int p4), .val (.int fr), .val (.int tt), .val (.ref b2), .val (.int (p3.toInt8.toInt32)), .val (.int kk), .val (.int ((p4 >>> ((8 : Int32) &&& 31)).toInt8.toInt32)), .val (.int z0), .val (.int z1), .val (.int z2), .val (.int z3), .unset, .unset, .unset, .unset, .unset, .unset, .unset, .unset, .unset] [(.int z3), (.int (fr + (14 : Int32))), (.ref b2)]))
        obtain ⟨cl80, Ar80, q80, S80, N80', H80⟩ := id G78
        have ix80 := own_ix (j := (fr + (14 : Int32))) (z := (24 : Int32)) (n := f + 14) (own_ad hf h3 (n := 14) (by decide) (by decide)) (own_ad24 hf h3 (n := 14) (by decide) (by decide))
        have hin80 : ¬ ((fr + (14 : Int32)) < 0 ∨ cl80.slots.size ≤ ((fr + (14 : Int32))).toNatClampNeg) := inb_of S80 ix80.1
        obtain ⟨T80, h80, X80, e80, W80, st80⟩ := stB X78 hx hZ e78 Ar80 (j := (fr + (14 : Int32))) hin80 (g := (mkF m 296 #[.val (.int p0), .val (.int p1), .val (.int p2), .val (.int p3), .val (.int p4), .val (.int fr), .val (.int tt), .val (.ref b2), .val (.int (p3.toInt8.toInt32)), .val (.int kk), .val (.int ((p4 >>> ((8 : Int32) &&& 31)).toInt8.toInt32)), .val (.int z0), .val (.int z1), .val (.int z2), .val (.int z3), .unset, .unset, .unset, .unset, .unset, .unset, .unset, .unset, .unset] [(.int z3), (.int (fr + (14 : Int32))), (.ref b2)])) rfl rfl (hb hby at_296)
        have G80 : Arf Z h80 b2 k2 .byte (24 : Int32) (fun j_ => .int ((own_up (own_up (own_up (own_up (own_up wl10 (f + 10) (nar .byte nb10)) (f + 11) (nar .byte z0)) (f + 12) (nar .byte z1)) (f + 13) (nar .byte z2)) (f + 14) (nar .byte z3)) j_)) := (Arf.set Ar80 q80 S80 N80' H80 W80 ix80.2.1).cast (fun j_ _ => own_up_map Value.int _ _ _ j_)
        have K81 : Keep h0 h80 [] := K79.wr W80 (Or.inr sz_b2)
        have O_81 : Old Z n0 h80 := O_79.wr W80 g_b2
        have Sf34_b2__K81 := Safe.wr W80 Sf34_b2__K79 hC.1 Sf34_b2__K79
        have hk : _ ≤ h80.size := Nat.le_trans hk (Keep.of_wr W80).1
        have hC := hC.trans (CHr.wr W80 Sf34_b2__K79 hC.1)
        have N80 := Fr.snoc X80 N78 g_b2
        refine Runs.by st80 ?_
        obtain ⟨wl, hwl⟩ : ∃ wl : Nat → Int32, wl = (own_up (own_up (own_up (own_up (own_up wl10 (f + 10) (nar .byte nb10)) (f + 11) (nar .byte z0)) (f + 12) (nar .byte z1)) (f + 13) (nar .byte z2)) (f + 14) (nar .byte z3)) := ⟨_, rfl⟩
        rw [← hwl] at G80
        obtain ⟨hwb, ez0, ez1, ez2, ez3, h15, en0, en1, en2, en3, en4, en5, en6, en7, en8, en9, en10⟩ := own_lineA hwl10 hwl hz0 hz1 hz2 hz3
        have hN0 : own_bg wl f fr (own_mn tt (fr + (998 : Int32))) = own_t0 wl f fr (own_mn tt (fr + (998 : Int32))) := own_N0 hf h3 en0 en1 en2 en3 en4 en5 en6 en7 en8 en9 en10 hnb0 hnb1 hnb2 hnb3 hnb4 hnb5 hnb6 hnb7 hnb8 hnb9 hnb10
        refine Runs.by (fun _ hr => XS.aload X80.here hx rfl (hb hby at_297) rfl rfl hr) ?_
        refine Runs.by (fun _ hr => XS.iload X80.here hx rfl (hb hby at_299) rfl  hr) ?_
        show Runs p e below _ (T80.setTop (mkF m 301 #[.val (.int p0), .val (.int p1), .val (.int p2), .val (.int p3), .val (.int p4), .val (.int fr), .val (.int tt), .val (.ref b2), .val (.int (p3.toInt8.toInt32)), .val (.int kk), .val (.int ((p4 >>> ((8 : Int32) &&& 31)).toInt8.toInt32)), .val (.int z0), .val (.int z1), .val (.int z2), .val (.int z3), .unset, .unset, .unset, .unset, .unset, .unset, .unset, .unset, .unset] [(.int fr), (.ref b2)]))
        refine Runs.by (fun _ hr => XS.iload X80.here hx rfl (hb hby at_301) rfl  hr) ?_
        show Runs p e below _ (T80.setTop (mkF m 303 #[.val (.int p0), .val (.int p1), .val (.int p2), .val (.int p3), .val (.int p4), .val (.int fr), .val (.int tt), .val (.ref b2), .val (.int (p3.toInt8.toInt32)), .val (.int kk), .val (.int ((p4 >>> ((8 : Int32) &&& 31)).toInt8.toInt32)), .val (.int z0), .val (.int z1), .val (.int z2), .val (.int z3), .unset, .unset, .unset, .unset, .unset, .unset, .unset, .unset, .unset] [(.int tt), (.int fr), (.ref b2)]))
        obtain ⟨_, _, ⟨T82, L82, k82, n82⟩, -, X82, ⟨Lc82, hQ82, l82, y82, z82⟩, st82⟩ := Jvm.LawKit.callS X80 hx (y := (⟨"com/example/word_odds/wordodds/filter/VerdictField", "begins", "([BII)Z"⟩ : MethodName)) hown (mvT hZ (hw _ (List.mem_of_getElem? (i := 42) rfl))) (mvT hZ (hw _ (List.mem_of_getElem? (i := 43) rfl))) (mvT hZ (hw _ (List.mem_of_getElem? (i := 44) rfl))) (mvT hZ (hw _ (List.mem_of_getElem? (i := 45) rfl))) (by decide) (backOf (W := 0) (rm8 l Z a0 hw [] b2 fr tt k2 wl f lo ko h80 n0 (Nat.le_trans Z0 K81.1) G80 hf h3 hwb h15 (SL.ext O_81.2) (VL.ext O_81.2)) hZ (hw _ (List.mem_of_getElem? (i := 45) rfl)) (hw _ (List.mem_of_getElem? (i := 44) rfl)) (by decide) (by decide)) (g := (mkF m 303 #[.val (.int p0), .val (.int p1), .val (.int p2), .val (.int p3), .val (.int p4), .val (.int fr), .val (.int tt), .val (.ref b2), .val (.int (p3.toInt8.toInt32)), .val (.int kk), .val (.int ((p4 >>> ((8 : Int32) &&& 31)).toInt8.toInt32)), .val (.int z0), .val (.int z1), .val (.int z2), .val (.int z3), .unset, .unset, .unset, .unset, .unset, .unset, .unset, .unset, .unset] [(.int tt), (.int fr), (.ref b2)])) rfl (by rw [hml]; rfl) (argsL := [(.ref b2), (.int fr), (.int tt)]) (rest := []) (lenOf pd_8 rfl) rfl (by show 2 * 0 + _ ≤ _; exact Nat.le_of_eq rfl) (hb hby at_303) (fun _ _ => ⟨rfl, e80, (by decide : 5 + 0 ≤ _), (by decide : 120 + 0 ≤ _)⟩)
        dsimp only [Pt.U, Pt.locs, Pt.cells, Pt.slots] at X82 l82 y82 z82 st82 hQ82
        subst l82 y82 z82
        obtain ⟨rfl, Nq82, eq82⟩ := hQ82
        have N82 := Fr.app N80 Nq82
        refine Runs.by (fun t hr => st82 t hr) ?_
        generalize hbgE : own_bg wl f fr (own_mn tt (fr + (998 : Int32))) = bg at hN0 ⊢
        refine Runs.by (fun _ hr => XS.istore X82.here hx rfl (hb hby at_306) rfl (l' := #[.val (.int p0), .val (.int p1), .val (.int p2), .val (.int p3), .val (.int p4), .val (.int fr), .val (.int tt), .val (.ref b2), .val (.int (p3.toInt8.toInt32)), .val (.int kk), .val (.int ((p4 >>> ((8 : Int32) &&& 31)).toInt8.toInt32)), .val (.int z0), .val (.int z1), .val (.int z2), .val (.int z3), .val (.int bg), .unset, .unset, .unset, .unset, .unset, .unset, .unset, .unset]) rfl hr) ?_
        have JN : ∀ (nk : Int32) (TJ83 : State) (hJ83 : Heap) (lJ83 : List Loc) (vJ83 : Vm) (kJ83 : Nat) (XJ83 : Stand p l e room_1 (s.setVm vJ83) m #[(.int p0), (.int p1), (.int p2), (.int p3), (.int p4)] below meth c TJ83 lJ83 9 216) (eJ83 : TJ83.heap = hJ83) (NJ83 : Fr n0 lJ83) (KJ83 : Keep h0 hJ83 []) (OJ83 : Old Z n0 hJ83) (hCJ83 : CHr Z consts_1 s.vm s.heap vJ83 hJ83) (hSJ83 : s.Since vJ83 kJ83) (hkJ83 : kJ83 ≤ hJ83.size) (hZJ83 : Z.Warmed39 vJ83) (hoJ83 : vJ83.findClass "com/example/word_odds/wordodds/filter/VerdictFieldBeginsPinLaw" = some m.cls) (hN : bg = if nk = 0 then 0 else own_t0 wl f fr (own_mn tt (fr + (998 : Int32)))), Runs p e below (QEW Z consts_1 s (Q_rm0 Z p0 p1 p2 p3 p4 gC vG lo ko h0 n0) room_1.cells room_1.slots) (TJ83.setTop (mkF m 344 #[.val (.int p0), .val (.int p1), .val (.int p2), .val (.int p3), .val (.int p4), .val (.int fr), .val (.int tt), .val (.ref b2), .val (.int (p3.toInt8.toInt32)), .val (.int kk), .val (.int ((p4 >>> ((8 : Int32) &&& 31)).toInt8.toInt32)), .val (.int z0), .val (.int z1), .val (.int z2), .val (.int z3), .val (.int bg), .unset, .unset, .unset, .unset, .unset, .unset, .unset, .unset] [(.int nk)])) := by
          intro nk TJ83 hJ83 lJ83 vJ83 kJ83 XJ83 eJ83 NJ83 KJ83 OJ83 hC hS hk hZ hown hN
          refine Runs.by (fun _ hr => XS.istore XJ83.here hx rfl (hb hby at_344) rfl (l' := #[.val (.int p0), .val (.int p1), .val (.int p2), .val (.int p3), .val (.int p4), .val (.int fr), .val (.int tt), .val (.ref b2), .val (.int (p3.toInt8.toInt32)), .val (.int kk), .val (.int ((p4 >>> ((8 : Int32) &&& 31)).toInt8.toInt32)), .val (.int z0), .val (.int z1), .val (.int z2), .val (.int z3), .val (.int bg), .val (.int nk), .unset, .unset, .unset, .unset, .unset, .unset, .unset]) rfl hr) ?_
          show Runs p e below _ (TJ83.setTop (mkF m 346 #[.val (.int p0), .val (.int p1), .val (.int p2), .val (.int p3), .val (.int p4), .val (.int fr), .val (.int tt), .val (.ref b2), .val (.int (p3.toInt8.toInt32)), .val (.int kk), .val (.int ((p4 >>> ((8 : Int32) &&& 31)).toInt8.toInt32)), .val (.int z0), .val (.int z1), .val (.int z2), .val (.int z3), .val (.int bg), .val (.int nk), .unset, .unset, .unset, .unset, .unset, .unset, .unset] []))
          refine Runs.by (fun _ hr => XS.iload XJ83.here hx rfl (hb hby at_346) rfl  hr) ?_
          refine Runs.by (fun _ hr => XS.i2l XJ83.here hx rfl (hb hby at_348) rfl hr) ?_
          refine Runs.by (fun _ hr => XS.iload XJ83.here hx rfl (hb hby at_349) rfl  hr) ?_
          show Runs p e below _ (TJ83.setTop (mkF m 351 #[.val (.int p0), .val (.int p1), .val (.int p2), .val (.int p3), .val (.int p4), .val (.int fr), .val (.int tt), .val (.ref b2), .val (.int (p3.toInt8.toInt32)), .val (.int kk), .val (.int ((p4 >>> ((8 : Int32) &&& 31)).toInt8.toInt32)), .val (.int z0), .val (.int z1), .val (.int z2), .val (.int z3), .val (.int bg), .val (.int nk), .unset, .unset, .unset, .unset, .unset, .unset, .unset] [(.int fr), (.long (tt.toInt64))]))
          refine Runs.by (fun _ hr => XS.i2l XJ83.here hx rfl (hb hby at_351) rfl hr) ?_
          show Runs p e below _ (TJ83.setTop (mkF m 352 #[.val (.int p0), .val (.int p1), .val (.int p2), .val (.int p3), .val (.int p4), .val (.int fr), .val (.int tt), .val (.ref b2), .val (.int (p3.toInt8.toInt32)), .val (.int kk), .val (.int ((p4 >>> ((8 : Int32) &&& 31)).toInt8.toInt32)), .val (.int z0), .val (.int z1), .val (.int z2), .val (.int z3), .val (.int bg), .val (.int nk), .unset, .unset, .unset, .unset, .unset, .unset, .unset] [(.long (fr.toInt64)), (.long (tt.toInt64))]))
          refine Runs.by (fun _ hr => XS.lsub XJ83.here hx rfl (hb hby at_352) rfl hr) ?_
          show Runs p e below _ (TJ83.setTop (mkF m 353 #[.val (.int p0), .val (.int p1), .val (.int p2), .val (.int p3), .val (.int p4), .val (.int fr), .val (.int tt), .val (.ref b2), .val (.int (p3.toInt8.toInt32)), .val (.int kk), .val (.int ((p4 >>> ((8 : Int32) &&& 31)).toInt8.toInt32)), .val (.int z0), .val (.int z1), .val (.int z2), .val (.int z3), .val (.int bg), .val (.int nk), .unset, .unset, .unset, .unset, .unset, .unset, .unset] [(.long ((tt.toInt64) - (fr.toInt64)))]))
          refine Runs.by (fun _ hr => XJ83.ldc2J hx hown (mvT hZ (hw _ (List.mem_of_getElem? (i := 52) rfl))) (g := (mkF m 353 #[.val (.int p0), .val (.int p1), .val (.int p2), .val (.int p3), .val (.int p4), .val (.int fr), .val (.int tt), .val (.ref b2), .val (.int (p3.toInt8.toInt32)), .val (.int kk), .val (.int ((p4 >>> ((8 : Int32) &&& 31)).toInt8.toInt32)), .val (.int z0), .val (.int z1), .val (.int z2), .val (.int z3), .val (.int bg), .val (.int nk), .unset, .unset, .unset, .unset, .unset, .unset, .unset] [(.long ((tt.toInt64) - (fr.toInt64)))])) rfl (hb hby at_353) hr) ?_
          show Runs p e below _ (TJ83.setTop (mkF m 356 #[.val (.int p0), .val (.int p1), .val (.int p2), .val (.int p3), .val (.int p4), .val (.int fr), .val (.int tt), .val (.ref b2), .val (.int (p3.toInt8.toInt32)), .val (.int kk), .val (.int ((p4 >>> ((8 : Int32) &&& 31)).toInt8.toInt32)), .val (.int z0), .val (.int z1), .val (.int z2), .val (.int z3), .val (.int bg), .val (.int nk), .unset, .unset, .unset, .unset, .unset, .unset, .unset] [(.long (998 : Int64)), (.long ((tt.toInt64) - (fr.toInt64)))]))
          obtain ⟨_, _, ⟨T84, L84, k84, n84⟩, -, X84, ⟨Lc84, hQ84, l84, y84, z84⟩, st84⟩ := Jvm.LawKit.callS XJ83 hx (y := (⟨"java/lang/Math", "min", "(JJ)J"⟩ : MethodName)) hown (mvT hZ (hw _ (List.mem_of_getElem? (i := 53) rfl))) (mvT hZ (hw _ (List.mem_of_getElem? (i := 54) rfl))) (mvT hZ (hw _ (List.mem_of_getElem? (i := 48) rfl))) (mvT hZ (hw _ (List.mem_of_getElem? (i := 55) rfl))) (by decide) (backOf (W := 0) (rm10 l Z a0 hw [] ((tt.toInt64) - (fr.toInt64)) (998 : Int64)  hJ83 n0 (Nat.le_trans Z0 KJ83.1) ) hZ (hw _ (List.mem_of_getElem? (i := 55) rfl)) (hw _ (List.mem_of_getElem? (i := 48) rfl)) (by decide) (by decide)) (g := (mkF m 356 #[.val (.int p0), .val (.int p1), .val (.int p2), .val (.int p3), .val (.int p4), .val (.int fr), .val (.int tt), .val (.ref b2), .val (.int (p3.toInt8.toInt32)), .val (.int kk), .val (.int ((p4 >>> ((8 : Int32) &&& 31)).toInt8.toInt32)), .val (.int z0), .val (.int z1), .val (.int z2), .val (.int z3), .val (.int bg), .val (.int nk), .unset, .unset, .unset, .unset, .unset, .unset, .unset] [(.long (998 : Int64)), (.long ((tt.toInt64) - (fr.toInt64)))])) rfl (by rw [hml]; rfl) (argsL := [(.long ((tt.toInt64) - (fr.toInt64))), (.long (998 : Int64))]) (rest := []) (lenOf pd_9 rfl) rfl (by show 2 * 0 + _ ≤ _; exact Nat.le_of_eq rfl) (hb hby at_356) (fun _ _ => ⟨rfl, eJ83, (by decide : 9 + 0 ≤ _), (by decide : 216 + 0 ≤ _)⟩)
          dsimp only [Pt.U, Pt.locs, Pt.cells, Pt.slots] at X84 l84 y84 z84 st84 hQ84
          subst l84 y84 z84
          obtain ⟨rfl, Nq84, eq84⟩ := hQ84
          have N84 := Fr.app NJ83 Nq84
          refine Runs.by (fun t hr => st84 t hr) ?_
          have hA0 : lcmpW (11 : Int64) (own_mnJ ((tt.toInt64) - (fr.toInt64)) (998 : Int64)) < 0 ↔ fr + (11 : Int32) < (own_mn tt (fr + (998 : Int32))) := own_aj hf h3 (n := 11) (by decide) (by decide) (by decide)
          have hA1 : lcmpW (12 : Int64) (own_mnJ ((tt.toInt64) - (fr.toInt64)) (998 : Int64)) < 0 ↔ fr + (12 : Int32) < (own_mn tt (fr + (998 : Int32))) := own_aj hf h3 (n := 12) (by decide) (by decide) (by decide)
          have hA2 : lcmpW (13 : Int64) (own_mnJ ((tt.toInt64) - (fr.toInt64)) (998 : Int64)) < 0 ↔ fr + (13 : Int32) < (own_mn tt (fr + (998 : Int32))) := own_aj hf h3 (n := 13) (by decide) (by decide) (by decide)
          have hA3 : lcmpW (14 : Int64) (own_mnJ ((tt.toInt64) - (fr.toInt64)) (998 : Int64)) < 0 ↔ fr + (14 : Int32) < (own_mn tt (fr + (998 : Int32))) := own_aj hf h3 (n := 14) (by decide) (by decide) (by decide)
          generalize (own_mnJ ((tt.toInt64) - (fr.toInt64)) (998 : Int64)) = ee at hA0 hA1 hA2 hA3 ⊢
          refine Runs.by (fun _ hr => XS.lstore X84.here hx rfl (hb hby at_359) rfl (l' := #[.val (.int p0), .val (.int p1), .val (.int p2), .val (.int p3), .val (.int p4), .val (.int fr), .val (.int tt), .val (.ref b2), .val (.int (p3.toInt8.toInt32)), .val (.int kk), .val (.int ((p4 >>> ((8 : Int32) &&& 31)).toInt8.toInt32)), .val (.int z0), .val (.int z1), .val (.int z2), .val (.int z3), .val (.int bg), .val (.int nk), .val (.long ee), .second, .unset, .unset, .unset, .unset, .unset]) rfl hr) ?_
          have JX0 : ∀ (x0 : Int32) (TJ85 : State) (lJ85 : List Loc) (XJ85 : Stand p l e room_1 (s.setVm vJ83) m #[(.int p0), (.int p1), (.int p2), (.int p3), (.int p4)] below meth c TJ85 lJ85 9 216) (eJ85 : TJ85.heap = hJ83) (NJ85 : Fr n0 lJ85) (hx0 : x0 ≠ 0 ↔ lcmpW (11 : Int64) ee < 0 ∧ z0 = 58), Runs p e below (QEW Z consts_1 s (Q_rm0 Z p0 p1 p2 p3 p4 gC vG lo ko h0 n0) room_1.cells room_1.slots) (TJ85.setTop (mkF m 382 #[.val (.int p0), .val (.int p1), .val (.int p2), .val (.int p3), .val (.int p4), .val (.int fr), .val (.int tt), .val (.ref b2), .val (.int (p3.toInt8.toInt32)), .val (.int kk), .val (.int ((p4 >>> ((8 : Int32) &&& 31)).toInt8.toInt32)), .val (.int z0), .val (.int z1), .val (.int z2), .val (.int z3), .val (.int bg), .val (.int nk), .val (.long ee), .second, .unset, .unset, .unset, .unset, .unset] [(.int x0)])) := by
            intro x0 TJ85 lJ85 XJ85 eJ85 NJ85 hx0
            refine Runs.by (fun _ hr => XS.istore XJ85.here hx rfl (hb hby at_382) rfl (l' := #[.val (.int p0), .val (.int p1), .val (.int p2), .val (.int p3), .val (.int p4), .val (.int fr), .val (.int tt), .val (.ref b2), .val (.int (p3.toInt8.toInt32)), .val (.int kk), .val (.int ((p4 >>> ((8 : Int32) &&& 31)).toInt8.toInt32)), .val (.int z0), .val (.int z1), .val (.int z2), .val (.int z3), .val (.int bg), .val (.int nk), .val (.long ee), .second, .val (.int x0), .unset, .unset, .unset, .unset]) rfl hr) ?_
            have JX1 : ∀ (x1 : Int32) (TJ86 : State) (lJ86 : List Loc) (XJ86 : Stand p l e room_1 (s.setVm vJ83) m #[(.int p0), (.int p1), (.int p2), (.int p3), (.int p4)] below meth c TJ86 lJ86 9 216) (eJ86 : TJ86.heap = hJ83) (NJ86 : Fr n0 lJ86) (hx1 : x1 ≠ 0 ↔ lcmpW (12 : Int64) ee < 0 ∧ ¬ own_ws z0 = 0 ∧ z1 = 58), Runs p e below (QEW Z consts_1 s (Q_rm0 Z p0 p1 p2 p3 p4 gC vG lo ko h0 n0) room_1.cells room_1.slots) (TJ86.setTop (mkF m 413 #[.val (.int p0), .val (.int p1), .val (.int p2), .val (.int p3), .val (.int p4), .val (.int fr), .val (.int tt), .val (.ref b2), .val (.int (p3.toInt8.toInt32)), .val (.int kk), .val (.int ((p4 >>> ((8 : Int32) &&& 31)).toInt8.toInt32)), .val (.int z0), .val (.int z1), .val (.int z2), .val (.int z3), .val (.int bg), .val (.int nk), .val (.long ee), .second, .val (.int x0), .unset, .unset, .unset, .unset] [(.int x1)])) := by
              intro x1 TJ86 lJ86 XJ86 eJ86 NJ86 hx1
              show Runs p e below _ (TJ86.setTop (mkF m 413 #[.val (.int p0), .val (.int p1), .val (.int p2), .val (.int p3), .val (.int p4), .val (.int fr), .val (.int tt), .val (.ref b2), .val (.int (p3.toInt8.toInt32)), .val (.int kk), .val (.int ((p4 >>> ((8 : Int32) &&& 31)).toInt8.toInt32)), .val (.int z0), .val (.int z1), .val (.int z2), .val (.int z3), .val (.int bg), .val (.int nk), .val (.long ee), .second, .val (.int x0), .unset, .unset, .unset, .unset] [(.int x1)]))
              refine Runs.by (fun _ hr => XS.istore XJ86.here hx rfl (hb hby at_413) rfl (l' := #[.val (.int p0), .val (.int p1), .val (.int p2), .val (.int p3), .val (.int p4), .val (.int fr), .val (.int tt), .val (.ref b2), .val (.int (p3.toInt8.toInt32)), .val (.int kk), .val (.int ((p4 >>> ((8 : Int32) &&& 31)).toInt8.toInt32)), .val (.int z0), .val (.int z1), .val (.int z2), .val (.int z3), .val (.int bg), .val (.int nk), .val (.long ee), .second, .val (.int x0), .val (.int x1), .unset, .unset, .unset]) rfl hr) ?_
              have JX2 : ∀ (x2 : Int32) (TJ87 : State) (lJ87 : List Loc) (XJ87 : Stand p l e room_1 (s.setVm vJ83) m #[(.int p0), (.int p1), (.int p2), (.int p3), (.int p4)] below meth c TJ87 lJ87 9 216) (eJ87 : TJ87.heap = hJ83) (NJ87 : Fr n0 lJ87) (hx2 : x2 ≠ 0 ↔ lcmpW (13 : Int64) ee < 0 ∧ ¬ own_ws z0 = 0 ∧ ¬ own_ws z1 = 0 ∧ z2 = 58), Runs p e below (QEW Z consts_1 s (Q_rm0 Z p0 p1 p2 p3 p4 gC vG lo ko h0 n0) room_1.cells room_1.slots) (TJ87.setTop (mkF m 452 #[.val (.int p0), .val (.int p1), .val (.int p2), .val (.int p3), .val (.int p4), .val (.int fr), .val (.int tt), .val (.ref b2), .val (.int (p3.toInt8.toInt32)), .val (.int kk), .val (.int ((p4 >>> ((8 : Int32) &&& 31)).toInt8.toInt32)), .val (.int z0), .val (.int z1), .val (.int z2), .val (.int z3), .val (.int bg), .val (.int nk), .val (.long ee), .second, .val (.int x0), .val (.int x1), .unset, .unset, .unset] [(.int x2)])) := by
                intro x2 TJ87 lJ87 XJ87 eJ87 NJ87 hx2
                refine Runs.by (fun _ hr => XS.istore XJ87.here hx rfl (hb hby at_452) rfl (l' := #[.val (.int p0), .val (.int p1), .val (.int p2), .val (.int p3), .val (.int p4), .val (.int fr), .val (.int tt), .val (.ref b2), .val (.int (p3.toInt8.toInt32)), .val (.int kk), .val (.int ((p4 >>> ((8 : Int32) &&& 31)).toInt8.toInt32)), .val (.int z0), .val (.int z1), .val (.int z2), .val (.int z3), .val (.int bg), .val (.int nk), .val (.long ee), .second, .val (.int x0), .val (.int x1), .val (.int x2), .unset, .unset]) rfl hr) ?_
                have JX3 : ∀ (x3 : Int32) (TJ88 : State) (lJ88 : List Loc) (XJ88 : Stand p l e room_1 (s.setVm vJ83) m #[(.int p0), (.int p1), (.int p2), (.int p3), (.int p4)] below meth c TJ88 lJ88 9 216) (eJ88 : TJ88.heap = hJ83) (NJ88 : Fr n0 lJ88) (hx3 : x3 ≠ 0 ↔ lcmpW (14 : Int64) ee < 0 ∧ ¬ own_ws z0 = 0 ∧ ¬ own_ws z1 = 0 ∧ ¬ own_ws z2 = 0 ∧ z3 = 58), Runs p e below (QEW Z consts_1 s (Q_rm0 Z p0 p1 p2 p3 p4 gC vG lo ko h0 n0) room_1.cells room_1.slots) (TJ88.setTop (mkF m 499 #[.val (.int p0), .val (.int p1), .val (.int p2), .val (.int p3), .val (.int p4), .val (.int fr), .val (.int tt), .val (.ref b2), .val (.int (p3.toInt8.toInt32)), .val (.int kk), .val (.int ((p4 >>> ((8 : Int32) &&& 31)).toInt8.toInt32)), .val (.int z0), .val (.int z1), .val (.int z2), .val (.int z3), .val (.int bg), .val (.int nk), .val (.long ee), .second, .val (.int x0), .val (.int x1), .val (.int x2), .unset, .unset] [(.int x3)])) := by
                  intro x3 TJ88 lJ88 XJ88 eJ88 NJ88 hx3
                  refine Runs.by (fun _ hr => XS.istore XJ88.here hx rfl (hb hby at_499) rfl (l' := #[.val (.int p0), .val (.int p1), .val (.int p2), .val (.int p3), .val (.int p4), .val (.int fr), .val (.int tt), .val (.ref b2), .val (.int (p3.toInt8.toInt32)), .val (.int kk), .val (.int ((p4 >>> ((8 : Int32) &&& 31)).toInt8.toInt32)), .val (.int z0), .val (.int z1), .val (.int z2), .val (.int z3), .val (.int bg), .val (.int nk), .val (.long ee), .second, .val (.int x0), .val (.int x1), .val (.int x2), .val (.int x3), .unset]) rfl hr) ?_
                  have hT := own_tail (en := (own_mn tt (fr + (998 : Int32)))) hf h3 ez0 ez1 ez2 ez3 hA0 hA1 hA2 hA3 hx0 hx1 hx2 hx3
                  show Runs p e below _ (TJ88.setTop (mkF m 501 #[.val (.int p0), .val (.int p1), .val (.int p2), .val (.int p3), .val (.int p4), .val (.int fr), .val (.int tt), .val (.ref b2), .val (.int (p3.toInt8.toInt32)), .val (.int kk), .val (.int ((p4 >>> ((8 : Int32) &&& 31)).toInt8.toInt32)), .val (.int z0), .val (.int z1), .val (.int z2), .val (.int z3), .val (.int bg), .val (.int nk), .val (.long ee), .second, .val (.int x0), .val (.int x1), .val (.int x2), .val (.int x3), .unset] []))
                  refine Runs.by (fun _ hr => XS.iload XJ88.here hx rfl (hb hby at_501) rfl  hr) ?_
                  by_cases hc503 : nk = (0 : Int32)
                  · -- pc 503: nk = (0 : Int32)
                    refine Runs.by (fun _ hr => XS.ifYes XJ88.here hx rfl (pc0 := 503) (pc' := 530) rfl (hb hby at_503) rfl ((if0 _ _).trans (teq hc503).1) (by decide) (by decide) hr) ?_
                    refine Runs.by (fun _ hr => XS.iconst XJ88.here hx rfl (hb hby at_530) hr) ?_
                    show Runs p e below _ (TJ88.setTop (mkF m 531 #[.val (.int p0), .val (.int p1), .val (.int p2), .val (.int p3), .val (.int p4), .val (.int fr), .val (.int tt), .val (.ref b2), .val (.int (p3.toInt8.toInt32)), .val (.int kk), .val (.int ((p4 >>> ((8 : Int32) &&& 31)).toInt8.toInt32)), .val (.int z0), .val (.int z1), .val (.int z2), .val (.int z3), .val (.int bg), .val (.int nk), .val (.long ee), .second, .val (.int x0), .val (.int x1), .val (.int x2), .val (.int x3), .unset] [(.int (0 : Int32))]))
                    refine Runs.by (fun _ hr => XS.istore XJ88.here hx rfl (hb hby at_531) rfl (l' := #[.val (.int p0), .val (.int p1), .val (.int p2), .val (.int p3), .val (.int p4), .val (.int fr), .val (.int tt), .val (.ref b2), .val (.int (p3.toInt8.toInt32)), .val (.int kk), .val (.int ((p4 >>> ((8 : Int32) &&& 31)).toInt8.toInt32)), .val (.int z0), .val (.int z1), .val (.int z2), .val (.int z3), .val (.int bg), .val (.int nk), .val (.long ee), .second, .val (.int x0), .val (.int x1), .val (.int x2), .val (.int x3), .val (.int (0 : Int32))]) rfl hr) ?_
                    refine Runs.by (fun _ hr => XS.iload XJ88.here hx rfl (hb hby at_533) rfl  hr) ?_
                    refine Runs.by (fun _ hr => XS.iload XJ88.here hx rfl (hb hby at_535) rfl  hr) ?_
                    show Runs p e below _ (TJ88.setTop (mkF m 537 #[.val (.int p0), .val (.int p1), .val (.int p2), .val (.int p3), .val (.int p4), .val (.int fr), .val (.int tt), .val (.ref b2), .val (.int (p3.toInt8.toInt32)), .val (.int kk), .val (.int ((p4 >>> ((8 : Int32) &&& 31)).toInt8.toInt32)), .val (.int z0), .val (.int z1), .val (.int z2), .val (.int z3), .val (.int bg), .val (.int nk), .val (.long ee), .second, .val (.int x0), .val (.int x1), .val (.int x2), .val (.int x3), .val (.int (0 : Int32))] [(.int (0 : Int32)), (.int bg)]))
                    have hc537 : bg = (0 : Int32) := (hN.trans (if_pos hc503))
                    refine Runs.by (fun _ hr => XS.icmpNo XJ88.here hx rfl (hb hby at_537) rfl (teq hc537).2 hr) ?_
                    refine Runs.by (fun _ hr => XS.iconst XJ88.here hx rfl (hb hby at_540) hr) ?_
                    refine Runs.by (fun _ hr => XS.goto XJ88.here hx rfl (pc0 := 541) (pc' := 545) rfl (hb hby at_541) (by decide) (by decide) hr) ?_
                    show Runs p e below _ (TJ88.setTop (mkF m 545 #[.val (.int p0), .val (.int p1), .val (.int p2), .val (.int p3), .val (.int p4), .val (.int fr), .val (.int tt), .val (.ref b2), .val (.int (p3.toInt8.toInt32)), .val (.int kk), .val (.int ((p4 >>> ((8 : Int32) &&& 31)).toInt8.toInt32)), .val (.int z0), .val (.int z1), .val (.int z2), .val (.int z3), .val (.int bg), .val (.int nk), .val (.long ee), .second, .val (.int x0), .val (.int x1), .val (.int x2), .val (.int x3), .val (.int (0 : Int32))] [(.int (1 : Int32))]))
                    refine Runs.retW XJ88 hx hrt hlk eJ88 hS hk hZ hEL hC (Or.inl ⟨rfl, by simp, _, rfl⟩) (by rfl) (hb hby at_545) (by decide) (by decide) ?_
                    exact ⟨rfl, NJ88⟩
                  · -- pc 503: not nk = (0 : Int32)
                    refine Runs.by (fun _ hr => XS.ifNo XJ88.here hx rfl (hb hby at_503) rfl ((if0 _ _).trans (feq hc503).1) hr) ?_
                    refine Runs.by (fun _ hr => XS.iload XJ88.here hx rfl (hb hby at_506) rfl  hr) ?_
                    show Runs p e below _ (TJ88.setTop (mkF m 508 #[.val (.int p0), .val (.int p1), .val (.int p2), .val (.int p3), .val (.int p4), .val (.int fr), .val (.int tt), .val (.ref b2), .val (.int (p3.toInt8.toInt32)), .val (.int kk), .val (.int ((p4 >>> ((8 : Int32) &&& 31)).toInt8.toInt32)), .val (.int z0), .val (.int z1), .val (.int z2), .val (.int z3), .val (.int bg), .val (.int nk), .val (.long ee), .second, .val (.int x0), .val (.int x1), .val (.int x2), .val (.int x3), .unset] [(.int x0)]))
                    by_cases hc508 : x0 = (0 : Int32)
                    · -- pc 508: x0 = (0 : Int32)
                      refine Runs.by (fun _ hr => XS.ifNo XJ88.here hx rfl (hb hby at_508) rfl ((if0 _ _).trans (teq hc508).2) hr) ?_
                      refine Runs.by (fun _ hr => XS.iload XJ88.here hx rfl (hb hby at_511) rfl  hr) ?_
                      by_cases hc513 : x1 = (0 : Int32)
                      · -- pc 513: x1 = (0 : Int32)
                        refine Runs.by (fun _ hr => XS.ifNo XJ88.here hx rfl (hb hby at_513) rfl ((if0 _ _).trans (teq hc513).2) hr) ?_
                        show Runs p e below _ (TJ88.setTop (mkF m 516 #[.val (.int p0), .val (.int p1), .val (.int p2), .val (.int p3), .val (.int p4), .val (.int fr), .val (.int tt), .val (.ref b2), .val (.int (p3.toInt8.toInt32)), .val (.int kk), .val (.int ((p4 >>> ((8 : Int32) &&& 31)).toInt8.toInt32)), .val (.int z0), .val (.int z1), .val (.int z2), .val (.int z3), .val (.int bg), .val (.int nk), .val (.long ee), .second, .val (.int x0), .val (.int x1), .val (.int x2), .val (.int x3), .unset] []))
                        refine Runs.by (fun _ hr => XS.iload XJ88.here hx rfl (hb hby at_516) rfl  hr) ?_
                        by_cases hc518 : x2 = (0 : Int32)
                        · -- pc 518: x2 = (0 : Int32)
                          refine Runs.by (fun _ hr => XS.ifNo XJ88.here hx rfl (hb hby at_518) rfl ((if0 _ _).trans (teq hc518).2) hr) ?_
                          refine Runs.by (fun _ hr => XS.iload XJ88.here hx rfl (hb hby at_521) rfl  hr) ?_
                          show Runs p e below _ (TJ88.setTop (mkF m 523 #[.val (.int p0), .val (.int p1), .val (.int p2), .val (.int p3), .val (.int p4), .val (.int fr), .val (.int tt), .val (.ref b2), .val (.int (p3.toInt8.toInt32)), .val (.int kk), .val (.int ((p4 >>> ((8 : Int32) &&& 31)).toInt8.toInt32)), .val (.int z0), .val (.int z1), .val (.int z2), .val (.int z3), .val (.int bg), .val (.int nk), .val (.long ee), .second, .val (.int x0), .val (.int x1), .val (.int x2), .val (.int x3), .unset] [(.int x3)]))
                          by_cases hc523 : x3 = (0 : Int32)
                          · -- pc 523: x3 = (0 : Int32)
                            refine Runs.by (fun _ hr => XS.ifYes XJ88.here hx rfl (pc0 := 523) (pc' := 530) rfl (hb hby at_523) rfl ((if0 _ _).trans (teq hc523).1) (by decide) (by decide) hr) ?_
                            refine Runs.by (fun _ hr => XS.iconst XJ88.here hx rfl (hb hby at_530) hr) ?_
                            refine Runs.by (fun _ hr => XS.istore XJ88.here hx rfl (hb hby at_531) rfl (l' := #[.val (.int p0), .val (.int p1), .val (.int p2), .val (.int p3), .val (.int p4), .val (.int fr), .val (.int tt), .val (.ref b2), .val (.int (p3.toInt8.toInt32)), .val (.int kk), .val (.int ((p4 >>> ((8 : Int32) &&& 31)).toInt8.toInt32)), .val (.int z0), .val (.int z1), .val (.int z2), .val (.int z3), .val (.int bg), .val (.int nk), .val (.long ee), .second, .val (.int x0), .val (.int x1), .val (.int x2), .val (.int x3), .val (.int (0 : Int32))]) rfl hr) ?_
                            show Runs p e below _ (TJ88.setTop (mkF m 533 #[.val (.int p0), .val (.int p1), .val (.int p2), .val (.int p3), .val (.int p4), .val (.int fr), .val (.int tt), .val (.ref b2), .val (.int (p3.toInt8.toInt32)), .val (.int kk), .val (.int ((p4 >>> ((8 : Int32) &&& 31)).toInt8.toInt32)), .val (.int z0), .val (.int z1), .val (.int z2), .val (.int z3), .val (.int bg), .val (.int nk), .val (.long ee), .second, .val (.int x0), .val (.int x1), .val (.int x2), .val (.int x3), .val (.int (0 : Int32))] []))
                            refine Runs.by (fun _ hr => XS.iload XJ88.here hx rfl (hb hby at_533) rfl  hr) ?_
                            refine Runs.by (fun _ hr => XS.iload XJ88.here hx rfl (hb hby at_535) rfl  hr) ?_
                            have hc537 : bg = (0 : Int32) := (hN.trans ((if_neg hc503).trans (hT.trans (if_neg (fun q => q.elim (fun a => a hc508) (fun q => q.elim (fun a => a hc513) (fun q => q.elim (fun a => a hc518) (fun a => a hc523))))))))
                            refine Runs.by (fun _ hr => XS.icmpNo XJ88.here hx rfl (hb hby at_537) rfl (teq hc537).2 hr) ?_
                            show Runs p e below _ (TJ88.setTop (mkF m 540 #[.val (.int p0), .val (.int p1), .val (.int p2), .val (.int p3), .val (.int p4), .val (.int fr), .val (.int tt), .val (.ref b2), .val (.int (p3.toInt8.toInt32)), .val (.int kk), .val (.int ((p4 >>> ((8 : Int32) &&& 31)).toInt8.toInt32)), .val (.int z0), .val (.int z1), .val (.int z2), .val (.int z3), .val (.int bg), .val (.int nk), .val (.long ee), .second, .val (.int x0), .val (.int x1), .val (.int x2), .val (.int x3), .val (.int (0 : Int32))] []))
                            refine Runs.by (fun _ hr => XS.iconst XJ88.here hx rfl (hb hby at_540) hr) ?_
                            refine Runs.by (fun _ hr => XS.goto XJ88.here hx rfl (pc0 := 541) (pc' := 545) rfl (hb hby at_541) (by decide) (by decide) hr) ?_
                            show Runs p e below _ (TJ88.setTop (mkF m 545 #[.val (.int p0), .val (.int p1), .val (.int p2), .val (.int p3), .val (.int p4), .val (.int fr), .val (.int tt), .val (.ref b2), .val (.int (p3.toInt8.toInt32)), .val (.int kk), .val (.int ((p4 >>> ((8 : Int32) &&& 31)).toInt8.toInt32)), .val (.int z0), .val (.int z1), .val (.int z2), .val (.int z3), .val (.int bg), .val (.int nk), .val (.long ee), .second, .val (.int x0), .val (.int x1), .val (.int x2), .val (.int x3), .val (.int (0 : Int32))] [(.int (1 : Int32))]))
                            refine Runs.retW XJ88 hx hrt hlk eJ88 hS hk hZ hEL hC (Or.inl ⟨rfl, by simp, _, rfl⟩) (by rfl) (hb hby at_545) (by decide) (by decide) ?_
                            exact ⟨rfl, NJ88⟩
                          · -- pc 523: not x3 = (0 : Int32)
                            refine Runs.by (fun _ hr => XS.ifNo XJ88.here hx rfl (hb hby at_523) rfl ((if0 _ _).trans (feq hc523).1) hr) ?_
                            refine Runs.by (fun _ hr => XS.iconst XJ88.here hx rfl (hb hby at_526) hr) ?_
                            refine Runs.by (fun _ hr => XS.goto XJ88.here hx rfl (pc0 := 527) (pc' := 531) rfl (hb hby at_527) (by decide) (by decide) hr) ?_
                            show Runs p e below _ (TJ88.setTop (mkF m 531 #[.val (.int p0), .val (.int p1), .val (.int p2), .val (.int p3), .val (.int p4), .val (.int fr), .val (.int tt), .val (.ref b2), .val (.int (p3.toInt8.toInt32)), .val (.int kk), .val (.int ((p4 >>> ((8 : Int32) &&& 31)).toInt8.toInt32)), .val (.int z0), .val (.int z1), .val (.int z2), .val (.int z3), .val (.int bg), .val (.int nk), .val (.long ee), .second, .val (.int x0), .val (.int x1), .val (.int x2), .val (.int x3), .unset] [(.int (1 : Int32))]))
                            refine Runs.by (fun _ hr => XS.istore XJ88.here hx rfl (hb hby at_531) rfl (l' := #[.val (.int p0), .val (.int p1), .val (.int p2), .val (.int p3), .val (.int p4), .val (.int fr), .val (.int tt), .val (.ref b2), .val (.int (p3.toInt8.toInt32)), .val (.int kk), .val (.int ((p4 >>> ((8 : Int32) &&& 31)).toInt8.toInt32)), .val (.int z0), .val (.int z1), .val (.int z2), .val (.int z3), .val (.int bg), .val (.int nk), .val (.long ee), .second, .val (.int x0), .val (.int x1), .val (.int x2), .val (.int x3), .val (.int (1 : Int32))]) rfl hr) ?_
                            refine Runs.by (fun _ hr => XS.iload XJ88.here hx rfl (hb hby at_533) rfl  hr) ?_
                            refine Runs.by (fun _ hr => XS.iload XJ88.here hx rfl (hb hby at_535) rfl  hr) ?_
                            show Runs p e below _ (TJ88.setTop (mkF m 537 #[.val (.int p0), .val (.int p1), .val (.int p2), .val (.int p3), .val (.int p4), .val (.int fr), .val (.int tt), .val (.ref b2), .val (.int (p3.toInt8.toInt32)), .val (.int kk), .val (.int ((p4 >>> ((8 : Int32) &&& 31)).toInt8.toInt32)), .val (.int z0), .val (.int z1), .val (.int z2), .val (.int z3), .val (.int bg), .val (.int nk), .val (.long ee), .second, .val (.int x0), .val (.int x1), .val (.int x2), .val (.int x3), .val (.int (1 : Int32))] [(.int (1 : Int32)), (.int bg)]))
                            have hc537 : bg = (1 : Int32) := (hN.trans ((if_neg hc503).trans (hT.trans (if_pos (Or.inr (Or.inr (Or.inr (hc523))))))))
                            refine Runs.by (fun _ hr => XS.icmpNo XJ88.here hx rfl (hb hby at_537) rfl (teq hc537).2 hr) ?_
                            refine Runs.by (fun _ hr => XS.iconst XJ88.here hx rfl (hb hby at_540) hr) ?_
                            refine Runs.by (fun _ hr => XS.goto XJ88.here hx rfl (pc0 := 541) (pc' := 545) rfl (hb hby at_541) (by decide) (by decide) hr) ?_
                            show Runs p e below _ (TJ88.setTop (mkF m 545 #[.val (.int p0), .val (.int p1), .val (.int p2), .val (.int p3), .val (.int p4), .val (.int fr), .val (.int tt), .val (.ref b2), .val (.int (p3.toInt8.toInt32)), .val (.int kk), .val (.int ((p4 >>> ((8 : Int32) &&& 31)).toInt8.toInt32)), .val (.int z0), .val (.int z1), .val (.int z2), .val (.int z3), .val (.int bg), .val (.int nk), .val (.long ee), .second, .val (.int x0), .val (.int x1), .val (.int x2), .val (.int x3), .val (.int (1 : Int32))] [(.int (1 : Int32))]))
                            refine Runs.retW XJ88 hx hrt hlk eJ88 hS hk hZ hEL hC (Or.inl ⟨rfl, by simp, _, rfl⟩) (by rfl) (hb hby at_545) (by decide) (by decide) ?_
                            exact ⟨rfl, NJ88⟩
                        · -- pc 518: not x2 = (0 : Int32)
                          refine Runs.by (fun _ hr => XS.ifYes XJ88.here hx rfl (pc0 := 518) (pc' := 526) rfl (hb hby at_518) rfl ((if0 _ _).trans (feq hc518).2) (by decide) (by decide) hr) ?_
                          refine Runs.by (fun _ hr => XS.iconst XJ88.here hx rfl (hb hby at_526) hr) ?_
                          show Runs p e below _ (TJ88.setTop (mkF m 527 #[.val (.int p0), .val (.int p1), .val (.int p2), .val (.int p3), .val (.int p4), .val (.int fr), .val (.int tt), .val (.ref b2), .val (.int (p3.toInt8.toInt32)), .val (.int kk), .val (.int ((p4 >>> ((8 : Int32) &&& 31)).toInt8.toInt32)), .val (.int z0), .val (.int z1), .val (.int z2), .val (.int z3), .val (.int bg), .val (.int nk), .val (.long ee), .second, .val (.int x0), .val (.int x1), .val (.int x2), .val (.int x3), .unset] [(.int (1 : Int32))]))
                          refine Runs.by (fun _ hr => XS.goto XJ88.here hx rfl (pc0 := 527) (pc' := 531) rfl (hb hby at_527) (by decide) (by decide) hr) ?_
                          refine Runs.by (fun _ hr => XS.istore XJ88.here hx rfl (hb hby at_531) rfl (l' := #[.val (.int p0), .val (.int p1), .val (.int p2), .val (.int p3), .val (.int p4), .val (.int fr), .val (.int tt), .val (.ref b2), .val (.int (p3.toInt8.toInt32)), .val (.int kk), .val (.int ((p4 >>> ((8 : Int32) &&& 31)).toInt8.toInt32)), .val (.int z0), .val (.int z1), .val (.int z2), .val (.int z3), .val (.int bg), .val (.int nk), .val (.long ee), .second, .val (.int x0), .val (.int x1), .val (.int x2), .val (.int x3), .val (.int (1 : Int32))]) rfl hr) ?_
                          refine Runs.by (fun _ hr => XS.iload XJ88.here hx rfl (hb hby at_533) rfl  hr) ?_
                          show Runs p e below _ (TJ88.setTop (mkF m 535 #[.val (.int p0), .val (.int p1), .val (.int p2), .val (.int p3), .val (.int p4), .val (.int fr), .val (.int tt), .val (.ref b2), .val (.int (p3.toInt8.toInt32)), .val (.int kk), .val (.int ((p4 >>> ((8 : Int32) &&& 31)).toInt8.toInt32)), .val (.int z0), .val (.int z1), .val (.int z2), .val (.int z3), .val (.int bg), .val (.int nk), .val (.long ee), .second, .val (.int x0), .val (.int x1), .val (.int x2), .val (.int x3), .val (.int (1 : Int32))] [(.int bg)]))
                          refine Runs.by (fun _ hr => XS.iload XJ88.here hx rfl (hb hby at_535) rfl  hr) ?_
                          have hc537 : bg = (1 : Int32) := (hN.trans ((if_neg hc503).trans (hT.trans (if_pos (Or.inr (Or.inr (Or.inl hc518)))))))
                          refine Runs.by (fun _ hr => XS.icmpNo XJ88.here hx rfl (hb hby at_537) rfl (teq hc537).2 hr) ?_
                          refine Runs.by (fun _ hr => XS.iconst XJ88.here hx rfl (hb hby at_540) hr) ?_
                          show Runs p e below _ (TJ88.setTop (mkF m 541 #[.val (.int p0), .val (.int p1), .val (.int p2), .val (.int p3), .val (.int p4), .val (.int fr), .val (.int tt), .val (.ref b2), .val (.int (p3.toInt8.toInt32)), .val (.int kk), .val (.int ((p4 >>> ((8 : Int32) &&& 31)).toInt8.toInt32)), .val (.int z0), .val (.int z1), .val (.int z2), .val (.int z3), .val (.int bg), .val (.int nk), .val (.long ee), .second, .val (.int x0), .val (.int x1), .val (.int x2), .val (.int x3), .val (.int (1 : Int32))] [(.int (1 : Int32))]))
                          refine Runs.by (fun _ hr => XS.goto XJ88.here hx rfl (pc0 := 541) (pc' := 545) rfl (hb hby at_541) (by decide) (by decide) hr) ?_
                          show Runs p e below _ (TJ88.setTop (mkF m 545 #[.val (.int p0), .val (.int p1), .val (.int p2), .val (.int p3), .val (.int p4), .val (.int fr), .val (.int tt), .val (.ref b2), .val (.int (p3.toInt8.toInt32)), .val (.int kk), .val (.int ((p4 >>> ((8 : Int32) &&& 31)).toInt8.toInt32)), .val (.int z0), .val (.int z1), .val (.int z2), .val (.int z3), .val (.int bg), .val (.int nk), .val (.long ee), .second, .val (.int x0), .val (.int x1), .val (.int x2), .val (.int x3), .val (.int (1 : Int32))] [(.int (1 : Int32))]))
                          refine Runs.retW XJ88 hx hrt hlk eJ88 hS hk hZ hEL hC (Or.inl ⟨rfl, by simp, _, rfl⟩) (by rfl) (hb hby at_545) (by decide) (by decide) ?_
                          exact ⟨rfl, NJ88⟩
                      · -- pc 513: not x1 = (0 : Int32)
                        refine Runs.by (fun _ hr => XS.ifYes XJ88.here hx rfl (pc0 := 513) (pc' := 526) rfl (hb hby at_513) rfl ((if0 _ _).trans (feq hc513).2) (by decide) (by decide) hr) ?_
                        show Runs p e below _ (TJ88.setTop (mkF m 526 #[.val (.int p0), .val (.int p1), .val (.int p2), .val (.int p3), .val (.int p4), .val (.int fr), .val (.int tt), .val (.ref b2), .val (.int (p3.toInt8.toInt32)), .val (.int kk), .val (.int ((p4 >>> ((8 : Int32) &&& 31)).toInt8.toInt32)), .val (.int z0), .val (.int z1), .val (.int z2), .val (.int z3), .val (.int bg), .val (.int nk), .val (.long ee), .second, .val (.int x0), .val (.int x1), .val (.int x2), .val (.int x3), .unset] []))
                        refine Runs.by (fun _ hr => XS.iconst XJ88.here hx rfl (hb hby at_526) hr) ?_
                        refine Runs.by (fun _ hr => XS.goto XJ88.here hx rfl (pc0 := 527) (pc' := 531) rfl (hb hby at_527) (by decide) (by decide) hr) ?_
                        refine Runs.by (fun _ hr => XS.istore XJ88.here hx rfl (hb hby at_531) rfl (l' := #[.val (.int p0), .val (.int p1), .val (.int p2), .val (.int p3), .val (.int p4), .val (.int fr), .val (.int tt), .val (.ref b2), .val (.int (p3.toInt8.toInt32)), .val (.int kk), .val (.int ((p4 >>> ((8 : Int32) &&& 31)).toInt8.toInt32)), .val (.int z0), .val (.int z1), .val (.int z2), .val (.int z3), .val (.int bg), .val (.int nk), .val (.long ee), .second, .val (.int x0), .val (.int x1), .val (.int x2), .val (.int x3), .val (.int (1 : Int32))]) rfl hr) ?_
                        show Runs p e below _ (TJ88.setTop (mkF m 533 #[.val (.int p0), .val (.int p1), .val (.int p2), .val (.int p3), .val (.int p4), .val (.int fr), .val (.int tt), .val (.ref b2), .val (.int (p3.toInt8.toInt32)), .val (.int kk), .val (.int ((p4 >>> ((8 : Int32) &&& 31)).toInt8.toInt32)), .val (.int z0), .val (.int z1), .val (.int z2), .val (.int z3), .val (.int bg), .val (.int nk), .val (.long ee), .second, .val (.int x0), .val (.int x1), .val (.int x2), .val (.int x3), .val (.int (1 : Int32))] []))
                        refine Runs.by (fun _ hr => XS.iload XJ88.here hx rfl (hb hby at_533) rfl  hr) ?_
                        refine Runs.by (fun _ hr => XS.iload XJ88.here hx rfl (hb hby at_535) rfl  hr) ?_
                        have hc537 : bg = (1 : Int32) := (hN.trans ((if_neg hc503).trans (hT.trans (if_pos (Or.inr (Or.inl hc513))))))
                        refine Runs.by (fun _ hr => XS.icmpNo XJ88.here hx rfl (hb hby at_537) rfl (teq hc537).2 hr) ?_
                        show Runs p e below _ (TJ88.setTop (mkF m 540 #[.val (.int p0), .val (.int p1), .val (.int p2), .val (.int p3), .val (.int p4), .val (.int fr), .val (.int tt), .val (.ref b2), .val (.int (p3.toInt8.toInt32)), .val (.int kk), .val (.int ((p4 >>> ((8 : Int32) &&& 31)).toInt8.toInt32)), .val (.int z0), .val (.int z1), .val (.int z2), .val (.int z3), .val (.int bg), .val (.int nk), .val (.long ee), .second, .val (.int x0), .val (.int x1), .val (.int x2), .val (.int x3), .val (.int (1 : Int32))] []))
                        refine Runs.by (fun _ hr => XS.iconst XJ88.here hx rfl (hb hby at_540) hr) ?_
                        refine Runs.by (fun _ hr => XS.goto XJ88.here hx rfl (pc0 := 541) (pc' := 545) rfl (hb hby at_541) (by decide) (by decide) hr) ?_
                        show Runs p e below _ (TJ88.setTop (mkF m 545 #[.val (.int p0), .val (.int p1), .val (.int p2), .val (.int p3), .val (.int p4), .val (.int fr), .val (.int tt), .val (.ref b2), .val (.int (p3.toInt8.toInt32)), .val (.int kk), .val (.int ((p4 >>> ((8 : Int32) &&& 31)).toInt8.toInt32)), .val (.int z0), .val (.int z1), .val (.int z2), .val (.int z3), .val (.int bg), .val (.int nk), .val (.long ee), .second, .val (.int x0), .val (.int x1), .val (.int x2), .val (.int x3), .val (.int (1 : Int32))] [(.int (1 : Int32))]))
                        refine Runs.retW XJ88 hx hrt hlk eJ88 hS hk hZ hEL hC (Or.inl ⟨rfl, by simp, _, rfl⟩) (by rfl) (hb hby at_545) (by decide) (by decide) ?_
                        exact ⟨rfl, NJ88⟩
                    · -- pc 508: not x0 = (0 : Int32)
                      refine Runs.by (fun _ hr => XS.ifYes XJ88.here hx rfl (pc0 := 508) (pc' := 526) rfl (hb hby at_508) rfl ((if0 _ _).trans (feq hc508).2) (by decide) (by decide) hr) ?_
                      refine Runs.by (fun _ hr => XS.iconst XJ88.here hx rfl (hb hby at_526) hr) ?_
                      refine Runs.by (fun _ hr => XS.goto XJ88.here hx rfl (pc0 := 527) (pc' := 531) rfl (hb hby at_527) (by decide) (by decide) hr) ?_
                      show Runs p e below _ (TJ88.setTop (mkF m 531 #[.val (.int p0), .val (.int p1), .val (.int p2), .val (.int p3), .val (.int p4), .val (.int fr), .val (.int tt), .val (.ref b2), .val (.int (p3.toInt8.toInt32)), .val (.int kk), .val (.int ((p4 >>> ((8 : Int32) &&& 31)).toInt8.toInt32)), .val (.int z0), .val (.int z1), .val (.int z2), .val (.int z3), .val (.int bg), .val (.int nk), .val (.long ee), .second, .val (.int x0), .val (.int x1), .val (.int x2), .val (.int x3), .unset] [(.int (1 : Int32))]))
                      refine Runs.by (fun _ hr => XS.istore XJ88.here hx rfl (hb hby at_531) rfl (l' := #[.val (.int p0), .val (.int p1), .val (.int p2), .val (.int p3), .val (.int p4), .val (.int fr), .val (.int tt), .val (.ref b2), .val (.int (p3.toInt8.toInt32)), .val (.int kk), .val (.int ((p4 >>> ((8 : Int32) &&& 31)).toInt8.toInt32)), .val (.int z0), .val (.int z1), .val (.int z2), .val (.int z3), .val (.int bg), .val (.int nk), .val (.long ee), .second, .val (.int x0), .val (.int x1), .val (.int x2), .val (.int x3), .val (.int (1 : Int32))]) rfl hr) ?_
                      refine Runs.by (fun _ hr => XS.iload XJ88.here hx rfl (hb hby at_533) rfl  hr) ?_
                      refine Runs.by (fun _ hr => XS.iload XJ88.here hx rfl (hb hby at_535) rfl  hr) ?_
                      show Runs p e below _ (TJ88.setTop (mkF m 537 #[.val (.int p0), .val (.int p1), .val (.int p2), .val (.int p3), .val (.int p4), .val (.int fr), .val (.int tt), .val (.ref b2), .val (.int (p3.toInt8.toInt32)), .val (.int kk), .val (.int ((p4 >>> ((8 : Int32) &&& 31)).toInt8.toInt32)), .val (.int z0), .val (.int z1), .val (.int z2), .val (.int z3), .val (.int bg), .val (.int nk), .val (.long ee), .second, .val (.int x0), .val (.int x1), .val (.int x2), .val (.int x3), .val (.int (1 : Int32))] [(.int (1 : Int32)), (.int bg)]))
                      have hc537 : bg = (1 : Int32) := (hN.trans ((if_neg hc503).trans (hT.trans (if_pos (Or.inl hc508)))))
                      refine Runs.by (fun _ hr => XS.icmpNo XJ88.here hx rfl (hb hby at_537) rfl (teq hc537).2 hr) ?_
                      refine Runs.by (fun _ hr => XS.iconst XJ88.here hx rfl (hb hby at_540) hr) ?_
                      refine Runs.by (fun _ hr => XS.goto XJ88.here hx rfl (pc0 := 541) (pc' := 545) rfl (hb hby at_541) (by decide) (by decide) hr) ?_
                      show Runs p e below _ (TJ88.setTop (mkF m 545 #[.val (.int p0), .val (.int p1), .val (.int p2), .val (.int p3), .val (.int p4), .val (.int fr), .val (.int tt), .val (.ref b2), .val (.int (p3.toInt8.toInt32)), .val (.int kk), .val (.int ((p4 >>> ((8 : Int32) &&& 31)).toInt8.toInt32)), .val (.int z0), .val (.int z1), .val (.int z2), .val (.int z3), .val (.int bg), .val (.int nk), .val (.long ee), .second, .val (.int x0), .val (.int x1), .val (.int x2), .val (.int x3), .val (.int (1 : Int32))] [(.int (1 : Int32))]))
                      refine Runs.retW XJ88 hx hrt hlk eJ88 hS hk hZ hEL hC (Or.inl ⟨rfl, by simp, _, rfl⟩) (by rfl) (hb hby at_545) (by decide) (by decide) ?_
                      exact ⟨rfl, NJ88⟩
                show Runs p e below _ (TJ87.setTop (mkF m 454 #[.val (.int p0), .val (.int p1), .val (.int p2), .val (.int p3), .val (.int p4), .val (.int fr), .val (.int tt), .val (.ref b2), .val (.int (p3.toInt8.toInt32)), .val (.int kk), .val (.int ((p4 >>> ((8 : Int32) &&& 31)).toInt8.toInt32)), .val (.int z0), .val (.int z1), .val (.int z2), .val (.int z3), .val (.int bg), .val (.int nk), .val (.long ee), .second, .val (.int x0), .val (.int x1), .val (.int x2), .unset, .unset] []))
                refine Runs.by (fun _ hr => XJ87.ldc2J hx hown (mvT hZ (hw _ (List.mem_of_getElem? (i := 59) rfl))) (g := (mkF m 454 #[.val (.int p0), .val (.int p1), .val (.int p2), .val (.int p3), .val (.int p4), .val (.int fr), .val (.int tt), .val (.ref b2), .val (.int (p3.toInt8.toInt32)), .val (.int kk), .val (.int ((p4 >>> ((8 : Int32) &&& 31)).toInt8.toInt32)), .val (.int z0), .val (.int z1), .val (.int z2), .val (.int z3), .val (.int bg), .val (.int nk), .val (.long ee), .second, .val (.int x0), .val (.int x1), .val (.int x2), .unset, .unset] [])) rfl (hb hby at_454) hr) ?_
                refine Runs.by (fun _ hr => XS.lload XJ87.here hx rfl (hb hby at_457) rfl  hr) ?_
                refine Runs.by (fun _ hr => XS.lcmp XJ87.here hx rfl (hb hby at_459) rfl hr) ?_
                show Runs p e below _ (TJ87.setTop (mkF m 460 #[.val (.int p0), .val (.int p1), .val (.int p2), .val (.int p3), .val (.int p4), .val (.int fr), .val (.int tt), .val (.ref b2), .val (.int (p3.toInt8.toInt32)), .val (.int kk), .val (.int ((p4 >>> ((8 : Int32) &&& 31)).toInt8.toInt32)), .val (.int z0), .val (.int z1), .val (.int z2), .val (.int z3), .val (.int bg), .val (.int nk), .val (.long ee), .second, .val (.int x0), .val (.int x1), .val (.int x2), .unset, .unset] [(.int (lcmpW (14 : Int64) ee))]))
                by_cases hc460 : (lcmpW (14 : Int64) ee) < (0 : Int32)
                · -- pc 460: (lcmpW (14 : Int64) ee) < (0 : Int32)
                  refine Runs.by (fun _ hr => XS.ifNo XJ87.here hx rfl (hb hby at_460) rfl ((if0 _ _).trans (tlt hc460).2.1) hr) ?_
                  refine Runs.by (fun _ hr => XS.iload XJ87.here hx rfl (hb hby at_463) rfl  hr) ?_
                  show Runs p e below _ (TJ87.setTop (mkF m 465 #[.val (.int p0), .val (.int p1), .val (.int p2), .val (.int p3), .val (.int p4), .val (.int fr), .val (.int tt), .val (.ref b2), .val (.int (p3.toInt8.toInt32)), .val (.int kk), .val (.int ((p4 >>> ((8 : Int32) &&& 31)).toInt8.toInt32)), .val (.int z0), .val (.int z1), .val (.int z2), .val (.int z3), .val (.int bg), .val (.int nk), .val (.long ee), .second, .val (.int x0), .val (.int x1), .val (.int x2), .unset, .unset] [(.int z0)]))
                  obtain ⟨_, _, ⟨T89, L89, k89, n89⟩, -, X89, ⟨Lc89, hQ89, l89, y89, z89⟩, st89⟩ := Jvm.LawKit.callS XJ87 hx (y := (⟨"com/example/word_odds/wordodds/filter/VerdictFieldBeginsPinLaw", "ws", "(B)Z"⟩ : MethodName)) hown (mvT hZ (hw _ (List.mem_of_getElem? (i := 63) rfl))) (mvT hZ (hw _ (List.mem_of_getElem? (i := 64) rfl))) (mvT hZ (hw _ (List.mem_of_getElem? (i := 4) rfl))) (mvT hZ (hw _ (List.mem_of_getElem? (i := 65) rfl))) (by decide) (backOf (W := 0) (rm12 l Z a0 hw [] z0  hJ83 n0 (Nat.le_trans Z0 KJ83.1) ) hZ (hw _ (List.mem_of_getElem? (i := 65) rfl)) (hw _ (List.mem_of_getElem? (i := 4) rfl)) (by decide) (by decide)) (g := (mkF m 465 #[.val (.int p0), .val (.int p1), .val (.int p2), .val (.int p3), .val (.int p4), .val (.int fr), .val (.int tt), .val (.ref b2), .val (.int (p3.toInt8.toInt32)), .val (.int kk), .val (.int ((p4 >>> ((8 : Int32) &&& 31)).toInt8.toInt32)), .val (.int z0), .val (.int z1), .val (.int z2), .val (.int z3), .val (.int bg), .val (.int nk), .val (.long ee), .second, .val (.int x0), .val (.int x1), .val (.int x2), .unset, .unset] [(.int z0)])) rfl (by rw [hml]; rfl) (argsL := [(.int z0)]) (rest := []) (lenOf pd_10 rfl) rfl (by show 2 * 0 + _ ≤ _; exact Nat.le_of_eq rfl) (hb hby at_465) (fun _ _ => ⟨rfl, eJ87, (by decide : 9 + 0 ≤ _), (by decide : 216 + 0 ≤ _)⟩)
                  dsimp only [Pt.U, Pt.locs, Pt.cells, Pt.slots] at X89 l89 y89 z89 st89 hQ89
                  subst l89 y89 z89
                  obtain ⟨rfl, Nq89, eq89⟩ := hQ89
                  have N89 := Fr.app NJ87 Nq89
                  refine Runs.by (fun t hr => st89 t hr) ?_
                  by_cases hc468 : (own_ws z0) = (0 : Int32)
                  · -- pc 468: (own_ws z0) = (0 : Int32)
                    refine Runs.by (fun _ hr => XS.ifYes X89.here hx rfl (pc0 := 468) (pc' := 498) rfl (hb hby at_468) rfl ((if0 _ _).trans (teq hc468).1) (by decide) (by decide) hr) ?_
                    refine Runs.by (fun _ hr => XS.iconst X89.here hx rfl (hb hby at_498) hr) ?_
                    exact JX3 (0 : Int32) _ _ X89 eq89 N89 ⟨fun q => absurd rfl q, fun q => absurd hc468 q.2.1⟩
                  · -- pc 468: not (own_ws z0) = (0 : Int32)
                    refine Runs.by (fun _ hr => XS.ifNo X89.here hx rfl (hb hby at_468) rfl ((if0 _ _).trans (feq hc468).1) hr) ?_
                    refine Runs.by (fun _ hr => XS.iload X89.here hx rfl (hb hby at_471) rfl  hr) ?_
                    show Runs p e below _ (T89.setTop (mkF m 473 #[.val (.int p0), .val (.int p1), .val (.int p2), .val (.int p3), .val (.int p4), .val (.int fr), .val (.int tt), .val (.ref b2), .val (.int (p3.toInt8.toInt32)), .val (.int kk), .val (.int ((p4 >>> ((8 : Int32) &&& 31)).toInt8.toInt32)), .val (.int z0), .val (.int z1), .val (.int z2), .val (.int z3), .val (.int bg), .val (.int nk), .val (.long ee), .second, .val (.int x0), .val (.int x1), .val (.int x2), .unset, .unset] [(.int z1)]))
                    obtain ⟨_, _, ⟨T90, L90, k90, n90⟩, -, X90, ⟨Lc90, hQ90, l90, y90, z90⟩, st90⟩ := Jvm.LawKit.callS X89 hx (y := (⟨"com/example/word_odds/wordodds/filter/VerdictFieldBeginsPinLaw", "ws", "(B)Z"⟩ : MethodName)) hown (mvT hZ (hw _ (List.mem_of_getElem? (i := 63) rfl))) (mvT hZ (hw _ (List.mem_of_getElem? (i := 64) rfl))) (mvT hZ (hw _ (List.mem_of_getElem? (i := 4) rfl))) (mvT hZ (hw _ (List.mem_of_getElem? (i := 65) rfl))) (by decide) (backOf (W := 0) (rm12 l Z a0 hw [] z1  hJ83 n0 (Nat.le_trans Z0 KJ83.1) ) hZ (hw _ (List.mem_of_getElem? (i := 65) rfl)) (hw _ (List.mem_of_getElem? (i := 4) rfl)) (by decide) (by decide)) (g := (mkF m 473 #[.val (.int p0), .val (.int p1), .val (.int p2), .val (.int p3), .val (.int p4), .val (.int fr), .val (.int tt), .val (.ref b2), .val (.int (p3.toInt8.toInt32)), .val (.int kk), .val (.int ((p4 >>> ((8 : Int32) &&& 31)).toInt8.toInt32)), .val (.int z0), .val (.int z1), .val (.int z2), .val (.int z3), .val (.int bg), .val (.int nk), .val (.long ee), .second, .val (.int x0), .val (.int x1), .val (.int x2), .unset, .unset] [(.int z1)])) rfl (by rw [hml]; rfl) (argsL := [(.int z1)]) (rest := []) (lenOf pd_10 rfl) rfl (by show 2 * 0 + _ ≤ _; exact Nat.le_of_eq rfl) (hb hby at_473) (fun _ _ => ⟨rfl, eq89, (by decide : 9 + 0 ≤ _), (by decide : 216 + 0 ≤ _)⟩)
                    dsimp only [Pt.U, Pt.locs, Pt.cells, Pt.slots] at X90 l90 y90 z90 st90 hQ90
                    subst l90 y90 z90
                    obtain ⟨rfl, Nq90, eq90⟩ := hQ90
                    have N90 := Fr.app N89 Nq90
                    refine Runs.by (fun t hr => st90 t hr) ?_
                    by_cases hc476 : (own_ws z1) = (0 : Int32)
                    · -- pc 476: (own_ws z1) = (0 : Int32)
                      refine Runs.by (fun _ hr => XS.ifYes X90.here hx rfl (pc0 := 476) (pc' := 498) rfl (hb hby at_476) rfl ((if0 _ _).trans (teq hc476).1) (by decide) (by decide) hr) ?_
                      refine Runs.by (fun _ hr => XS.iconst X90.here hx rfl (hb hby at_498) hr) ?_
                      exact JX3 (0 : Int32) _ _ X90 eq90 N90 ⟨fun q => absurd rfl q, fun q => absurd hc476 q.2.2.1⟩
                    · -- pc 476: not (own_ws z1) = (0 : Int32)
                      refine Runs.by (fun _ hr => XS.ifNo X90.here hx rfl (hb hby at_476) rfl ((if0 _ _).trans (feq hc476).1) hr) ?_
                      refine Runs.by (fun _ hr => XS.iload X90.here hx rfl (hb hby at_479) rfl  hr) ?_
                      show Runs p e below _ (T90.setTop (mkF m 481 #[.val (.int p0), .val (.int p1), .val (.int p2), .val (.int p3), .val (.int p4), .val (.int fr), .val (.int tt), .val (.ref b2), .val (.int (p3.toInt8.toInt32)), .val (.int kk), .val (.int ((p4 >>> ((8 : Int32) &&& 31)).toInt8.toInt32)), .val (.int z0), .val (.int z1), .val (.int z2), .val (.int z3), .val (.int bg), .val (.int nk), .val (.long ee), .second, .val (.int x0), .val (.int x1), .val (.int x2), .unset, .unset] [(.int z2)]))
                      obtain ⟨_, _, ⟨T91, L91, k91, n91⟩, -, X91, ⟨Lc91, hQ91, l91, y91, z91⟩, st91⟩ := Jvm.LawKit.callS X90 hx (y := (⟨"com/example/word_odds/wordodds/filter/VerdictFieldBeginsPinLaw", "ws", "(B)Z"⟩ : MethodName)) hown (mvT hZ (hw _ (List.mem_of_getElem? (i := 63) rfl))) (mvT hZ (hw _ (List.mem_of_getElem? (i := 64) rfl))) (mvT hZ (hw _ (List.mem_of_getElem? (i := 4) rfl))) (mvT hZ (hw _ (List.mem_of_getElem? (i := 65) rfl))) (by decide) (backOf (W := 0) (rm12 l Z a0 hw [] z2  hJ83 n0 (Nat.le_trans Z0 KJ83.1) ) hZ (hw _ (List.mem_of_getElem? (i := 65) rfl)) (hw _ (List.mem_of_getElem? (i := 4) rfl)) (by decide) (by decide)) (g := (mkF m 481 #[.val (.int p0), .val (.int p1), .val (.int p2), .val (.int p3), .val (.int p4), .val (.int fr), .val (.int tt), .val (.ref b2), .val (.int (p3.toInt8.toInt32)), .val (.int kk), .val (.int ((p4 >>> ((8 : Int32) &&& 31)).toInt8.toInt32)), .val (.int z0), .val (.int z1), .val (.int z2), .val (.int z3), .val (.int bg), .val (.int nk), .val (.long ee), .second, .val (.int x0), .val (.int x1), .val (.int x2), .unset, .unset] [(.int z2)])) rfl (by rw [hml]; rfl) (argsL := [(.int z2)]) (rest := []) (lenOf pd_10 rfl) rfl (by show 2 * 0 + _ ≤ _; exact Nat.le_of_eq rfl) (hb hby at_481) (fun _ _ => ⟨rfl, eq90, (by decide : 9 + 0 ≤ _), (by decide : 216 + 0 ≤ _)⟩)
                      dsimp only [Pt.U, Pt.locs, Pt.cells, Pt.slots] at X91 l91 y91 z91 st91 hQ91
                      subst l91 y91 z91
                      obtain ⟨rfl, Nq91, eq91⟩ := hQ91
                      have N91 := Fr.app N90 Nq91
                      refine Runs.by (fun t hr => st91 t hr) ?_
                      by_cases hc484 : (own_ws z2) = (0 : Int32)
                      · -- pc 484: (own_ws z2) = (0 : Int32)
                        refine Runs.by (fun _ hr => XS.ifYes X91.here hx rfl (pc0 := 484) (pc' := 498) rfl (hb hby at_484) rfl ((if0 _ _).trans (teq hc484).1) (by decide) (by decide) hr) ?_
                        refine Runs.by (fun _ hr => XS.iconst X91.here hx rfl (hb hby at_498) hr) ?_
                        exact JX3 (0 : Int32) _ _ X91 eq91 N91 ⟨fun q => absurd rfl q, fun q => absurd hc484 q.2.2.2.1⟩
                      · -- pc 484: not (own_ws z2) = (0 : Int32)
                        refine Runs.by (fun _ hr => XS.ifNo X91.here hx rfl (hb hby at_484) rfl ((if0 _ _).trans (feq hc484).1) hr) ?_
                        refine Runs.by (fun _ hr => XS.iload X91.here hx rfl (hb hby at_487) rfl  hr) ?_
                        show Runs p e below _ (T91.setTop (mkF m 489 #[.val (.int p0), .val (.int p1), .val (.int p2), .val (.int p3), .val (.int p4), .val (.int fr), .val (.int tt), .val (.ref b2), .val (.int (p3.toInt8.toInt32)), .val (.int kk), .val (.int ((p4 >>> ((8 : Int32) &&& 31)).toInt8.toInt32)), .val (.int z0), .val (.int z1), .val (.int z2), .val (.int z3), .val (.int bg), .val (.int nk), .val (.long ee), .second, .val (.int x0), .val (.int x1), .val (.int x2), .unset, .unset] [(.int z3)]))
                        refine Runs.by (fun _ hr => XS.bipush X91.here hx rfl (hb hby at_489) hr) ?_
                        by_cases hc491 : z3 = (58 : Int32)
                        · -- pc 491: z3 = (58 : Int32)
                          refine Runs.by (fun _ hr => XS.icmpNo X91.here hx rfl (hb hby at_491) rfl (teq hc491).2 hr) ?_
                          refine Runs.by (fun _ hr => XS.iconst X91.here hx rfl (hb hby at_494) hr) ?_
                          show Runs p e below _ (T91.setTop (mkF m 495 #[.val (.int p0), .val (.int p1), .val (.int p2), .val (.int p3), .val (.int p4), .val (.int fr), .val (.int tt), .val (.ref b2), .val (.int (p3.toInt8.toInt32)), .val (.int kk), .val (.int ((p4 >>> ((8 : Int32) &&& 31)).toInt8.toInt32)), .val (.int z0), .val (.int z1), .val (.int z2), .val (.int z3), .val (.int bg), .val (.int nk), .val (.long ee), .second, .val (.int x0), .val (.int x1), .val (.int x2), .unset, .unset] [(.int (1 : Int32))]))
                          refine Runs.by (fun _ hr => XS.goto X91.here hx rfl (pc0 := 495) (pc' := 499) rfl (hb hby at_495) (by decide) (by decide) hr) ?_
                          exact JX3 (1 : Int32) _ _ X91 eq91 N91 ⟨fun _ => ⟨hc460, hc468, hc476, hc484, hc491⟩, fun _ => by decide⟩
                        · -- pc 491: not z3 = (58 : Int32)
                          refine Runs.by (fun _ hr => XS.icmpYes X91.here hx rfl (pc0 := 491) (pc' := 498) rfl (hb hby at_491) rfl (feq hc491).2 (by decide) (by decide) hr) ?_
                          refine Runs.by (fun _ hr => XS.iconst X91.here hx rfl (hb hby at_498) hr) ?_
                          exact JX3 (0 : Int32) _ _ X91 eq91 N91 ⟨fun q => absurd rfl q, fun q => absurd q.2.2.2.2 hc491⟩
                · -- pc 460: not (lcmpW (14 : Int64) ee) < (0 : Int32)
                  refine Runs.by (fun _ hr => XS.ifYes XJ87.here hx rfl (pc0 := 460) (pc' := 498) rfl (hb hby at_460) rfl ((if0 _ _).trans (flt hc460).2.1) (by decide) (by decide) hr) ?_
                  refine Runs.by (fun _ hr => XS.iconst XJ87.here hx rfl (hb hby at_498) hr) ?_
                  exact JX3 (0 : Int32) _ _ XJ87 eJ87 NJ87 ⟨fun q => absurd rfl q, fun q => absurd q.1 hc460⟩
              show Runs p e below _ (TJ86.setTop (mkF m 415 #[.val (.int p0), .val (.int p1), .val (.int p2), .val (.int p3), .val (.int p4), .val (.int fr), .val (.int tt), .val (.ref b2), .val (.int (p3.toInt8.toInt32)), .val (.int kk), .val (.int ((p4 >>> ((8 : Int32) &&& 31)).toInt8.toInt32)), .val (.int z0), .val (.int z1), .val (.int z2), .val (.int z3), .val (.int bg), .val (.int nk), .val (.long ee), .second, .val (.int x0), .val (.int x1), .unset, .unset, .unset] []))
              refine Runs.by (fun _ hr => XJ86.ldc2J hx hown (mvT hZ (hw _ (List.mem_of_getElem? (i := 58) rfl))) (g := (mkF m 415 #[.val (.int p0), .val (.int p1), .val (.int p2), .val (.int p3), .val (.int p4), .val (.int fr), .val (.int tt), .val (.ref b2), .val (.int (p3.toInt8.toInt32)), .val (.int kk), .val (.int ((p4 >>> ((8 : Int32) &&& 31)).toInt8.toInt32)), .val (.int z0), .val (.int z1), .val (.int z2), .val (.int z3), .val (.int bg), .val (.int nk), .val (.long ee), .second, .val (.int x0), .val (.int x1), .unset, .unset, .unset] [])) rfl (hb hby at_415) hr) ?_
              refine Runs.by (fun _ hr => XS.lload XJ86.here hx rfl (hb hby at_418) rfl  hr) ?_
              refine Runs.by (fun _ hr => XS.lcmp XJ86.here hx rfl (hb hby at_420) rfl hr) ?_
              show Runs p e below _ (TJ86.setTop (mkF m 421 #[.val (.int p0), .val (.int p1), .val (.int p2), .val (.int p3), .val (.int p4), .val (.int fr), .val (.int tt), .val (.ref b2), .val (.int (p3.toInt8.toInt32)), .val (.int kk), .val (.int ((p4 >>> ((8 : Int32) &&& 31)).toInt8.toInt32)), .val (.int z0), .val (.int z1), .val (.int z2), .val (.int z3), .val (.int bg), .val (.int nk), .val (.long ee), .second, .val (.int x0), .val (.int x1), .unset, .unset, .unset] [(.int (lcmpW (13 : Int64) ee))]))
              by_cases hc421 : (lcmpW (13 : Int64) ee) < (0 : Int32)
              · -- pc 421: (lcmpW (13 : Int64) ee) < (0 : Int32)
                refine Runs.by (fun _ hr => XS.ifNo XJ86.here hx rfl (hb hby at_421) rfl ((if0 _ _).trans (tlt hc421).2.1) hr) ?_
                refine Runs.by (fun _ hr => XS.iload XJ86.here hx rfl (hb hby at_424) rfl  hr) ?_
                show Runs p e below _ (TJ86.setTop (mkF m 426 #[.val (.int p0), .val (.int p1), .val (.int p2), .val (.int p3), .val (.int p4), .val (.int fr), .val (.int tt), .val (.ref b2), .val (.int (p3.toInt8.toInt32)), .val (.int kk), .val (.int ((p4 >>> ((8 : Int32) &&& 31)).toInt8.toInt32)), .val (.int z0), .val (.int z1), .val (.int z2), .val (.int z3), .val (.int bg), .val (.int nk), .val (.long ee), .second, .val (.int x0), .val (.int x1), .unset, .unset, .unset] [(.int z0)]))
                obtain ⟨_, _, ⟨T92, L92, k92, n92⟩, -, X92, ⟨Lc92, hQ92, l92, y92, z92⟩, st92⟩ := Jvm.LawKit.callS XJ86 hx (y := (⟨"com/example/word_odds/wordodds/filter/VerdictFieldBeginsPinLaw", "ws", "(B)Z"⟩ : MethodName)) hown (mvT hZ (hw _ (List.mem_of_getElem? (i := 63) rfl))) (mvT hZ (hw _ (List.mem_of_getElem? (i := 64) rfl))) (mvT hZ (hw _ (List.mem_of_getElem? (i := 4) rfl))) (mvT hZ (hw _ (List.mem_of_getElem? (i := 65) rfl))) (by decide) (backOf (W := 0) (rm12 l Z a0 hw [] z0  hJ83 n0 (Nat.le_trans Z0 KJ83.1) ) hZ (hw _ (List.mem_of_getElem? (i := 65) rfl)) (hw _ (List.mem_of_getElem? (i := 4) rfl)) (by decide) (by decide)) (g := (mkF m 426 #[.val (.int p0), .val (.int p1), .val (.int p2), .val (.int p3), .val (.int p4), .val (.int fr), .val (.int tt), .val (.ref b2), .val (.int (p3.toInt8.toInt32)), .val (.int kk), .val (.int ((p4 >>> ((8 : Int32) &&& 31)).toInt8.toInt32)), .val (.int z0), .val (.int z1), .val (.int z2), .val (.int z3), .val (.int bg), .val (.int nk), .val (.long ee), .second, .val (.int x0), .val (.int x1), .unset, .unset, .unset] [(.int z0)])) rfl (by rw [hml]; rfl) (argsL := [(.int z0)]) (rest := []) (lenOf pd_10 rfl) rfl (by show 2 * 0 + _ ≤ _; exact Nat.le_of_eq rfl) (hb hby at_426) (fun _ _ => ⟨rfl, eJ86, (by decide : 9 + 0 ≤ _), (by decide : 216 + 0 ≤ _)⟩)
                dsimp only [Pt.U, Pt.locs, Pt.cells, Pt.slots] at X92 l92 y92 z92 st92 hQ92
                subst l92 y92 z92
                obtain ⟨rfl, Nq92, eq92⟩ := hQ92
                have N92 := Fr.app NJ86 Nq92
                refine Runs.by (fun t hr => st92 t hr) ?_
                by_cases hc429 : (own_ws z0) = (0 : Int32)
                · -- pc 429: (own_ws z0) = (0 : Int32)
                  refine Runs.by (fun _ hr => XS.ifYes X92.here hx rfl (pc0 := 429) (pc' := 451) rfl (hb hby at_429) rfl ((if0 _ _).trans (teq hc429).1) (by decide) (by decide) hr) ?_
                  refine Runs.by (fun _ hr => XS.iconst X92.here hx rfl (hb hby at_451) hr) ?_
                  exact JX2 (0 : Int32) _ _ X92 eq92 N92 ⟨fun q => absurd rfl q, fun q => absurd hc429 q.2.1⟩
                · -- pc 429: not (own_ws z0) = (0 : Int32)
                  refine Runs.by (fun _ hr => XS.ifNo X92.here hx rfl (hb hby at_429) rfl ((if0 _ _).trans (feq hc429).1) hr) ?_
                  refine Runs.by (fun _ hr => XS.iload X92.here hx rfl (hb hby at_432) rfl  hr) ?_
                  show Runs p e below _ (T92.setTop (mkF m 434 #[.val (.int p0), .val (.int p1), .val (.int p2), .val (.int p3), .val (.int p4), .val (.int fr), .val (.int tt), .val (.ref b2), .val (.int (p3.toInt8.toInt32)), .val (.int kk), .val (.int ((p4 >>> ((8 : Int32) &&& 31)).toInt8.toInt32)), .val (.int z0), .val (.int z1), .val (.int z2), .val (.int z3), .val (.int bg), .val (.int nk), .val (.long ee), .second, .val (.int x0), .val (.int x1), .unset, .unset, .unset] [(.int z1)]))
                  obtain ⟨_, _, ⟨T93, L93, k93, n93⟩, -, X93, ⟨Lc93, hQ93, l93, y93, z93⟩, st93⟩ := Jvm.LawKit.callS X92 hx (y := (⟨"com/example/word_odds/wordodds/filter/VerdictFieldBeginsPinLaw", "ws", "(B)Z"⟩ : MethodName)) hown (mvT hZ (hw _ (List.mem_of_getElem? (i := 63) rfl))) (mvT hZ (hw _ (List.mem_of_getElem? (i := 64) rfl))) (mvT hZ (hw _ (List.mem_of_getElem? (i := 4) rfl))) (mvT hZ (hw _ (List.mem_of_getElem? (i := 65) rfl))) (by decide) (backOf (W := 0) (rm12 l Z a0 hw [] z1  hJ83 n0 (Nat.le_trans Z0 KJ83.1) ) hZ (hw _ (List.mem_of_getElem? (i := 65) rfl)) (hw _ (List.mem_of_getElem? (i := 4) rfl)) (by decide) (by decide)) (g := (mkF m 434 #[.val (.int p0), .val (.int p1), .val (.int p2), .val (.int p3), .val (.int p4), .val (.int fr), .val (.int tt), .val (.ref b2), .val (.int (p3.toInt8.toInt32)), .val (.int kk), .val (.int ((p4 >>> ((8 : Int32) &&& 31)).toInt8.toInt32)), .val (.int z0), .val (.int z1), .val (.int z2), .val (.int z3), .val (.int bg), .val (.int nk), .val (.long ee), .second, .val (.int x0), .val (.int x1), .unset, .unset, .unset] [(.int z1)])) rfl (by rw [hml]; rfl) (argsL := [(.int z1)]) (rest := []) (lenOf pd_10 rfl) rfl (by show 2 * 0 + _ ≤ _; exact Nat.le_of_eq rfl) (hb hby at_434) (fun _ _ => ⟨rfl, eq92, (by decide : 9 + 0 ≤ _), (by decide : 216 + 0 ≤ _)⟩)
                  dsimp only [Pt.U, Pt.locs, Pt.cells, Pt.slots] at X93 l93 y93 z93 st93 hQ93
                  subst l93 y93 z93
                  obtain ⟨rfl, Nq93, eq93⟩ := hQ93
                  have N93 := Fr.app N92 Nq93
                  refine Runs.by (fun t hr => st93 t hr) ?_
                  by_cases hc437 : (own_ws z1) = (0 : Int32)
                  · -- pc 437: (own_ws z1) = (0 : Int32)
                    refine Runs.by (fun _ hr => XS.ifYes X93.here hx rfl (pc0 := 437) (pc' := 451) rfl (hb hby at_437) rfl ((if0 _ _).trans (teq hc437).1) (by decide) (by decide) hr) ?_
                    refine Runs.by (fun _ hr => XS.iconst X93.here hx rfl (hb hby at_451) hr) ?_
                    exact JX2 (0 : Int32) _ _ X93 eq93 N93 ⟨fun q => absurd rfl q, fun q => absurd hc437 q.2.2.1⟩
                  · -- pc 437: not (own_ws z1) = (0 : Int32)
                    refine Runs.by (fun _ hr => XS.ifNo X93.here hx rfl (hb hby at_437) rfl ((if0 _ _).trans (feq hc437).1) hr) ?_
                    refine Runs.by (fun _ hr => XS.iload X93.here hx rfl (hb hby at_440) rfl  hr) ?_
                    show Runs p e below _ (T93.setTop (mkF m 442 #[.val (.int p0), .val (.int p1), .val (.int p2), .val (.int p3), .val (.int p4), .val (.int fr), .val (.int tt), .val (.ref b2), .val (.int (p3.toInt8.toInt32)), .val (.int kk), .val (.int ((p4 >>> ((8 : Int32) &&& 31)).toInt8.toInt32)), .val (.int z0), .val (.int z1), .val (.int z2), .val (.int z3), .val (.int bg), .val (.int nk), .val (.long ee), .second, .val (.int x0), .val (.int x1), .unset, .unset, .unset] [(.int z2)]))
                    refine Runs.by (fun _ hr => XS.bipush X93.here hx rfl (hb hby at_442) hr) ?_
                    by_cases hc444 : z2 = (58 : Int32)
                    · -- pc 444: z2 = (58 : Int32)
                      refine Runs.by (fun _ hr => XS.icmpNo X93.here hx rfl (hb hby at_444) rfl (teq hc444).2 hr) ?_
                      refine Runs.by (fun _ hr => XS.iconst X93.here hx rfl (hb hby at_447) hr) ?_
                      show Runs p e below _ (T93.setTop (mkF m 448 #[.val (.int p0), .val (.int p1), .val (.int p2), .val (.int p3), .val (.int p4), .val (.int fr), .val (.int tt), .val (.ref b2), .val (.int (p3.toInt8.toInt32)), .val (.int kk), .val (.int ((p4 >>> ((8 : Int32) &&& 31)).toInt8.toInt32)), .val (.int z0), .val (.int z1), .val (.int z2), .val (.int z3), .val (.int bg), .val (.int nk), .val (.long ee), .second, .val (.int x0), .val (.int x1), .unset, .unset, .unset] [(.int (1 : Int32))]))
                      refine Runs.by (fun _ hr => XS.goto X93.here hx rfl (pc0 := 448) (pc' := 452) rfl (hb hby at_448) (by decide) (by decide) hr) ?_
                      exact JX2 (1 : Int32) _ _ X93 eq93 N93 ⟨fun _ => ⟨hc421, hc429, hc437, hc444⟩, fun _ => by decide⟩
                    · -- pc 444: not z2 = (58 : Int32)
                      refine Runs.by (fun _ hr => XS.icmpYes X93.here hx rfl (pc0 := 444) (pc' := 451) rfl (hb hby at_444) rfl (feq hc444).2 (by decide) (by decide) hr) ?_
                      refine Runs.by (fun _ hr => XS.iconst X93.here hx rfl (hb hby at_451) hr) ?_
                      exact JX2 (0 : Int32) _ _ X93 eq93 N93 ⟨fun q => absurd rfl q, fun q => absurd q.2.2.2 hc444⟩
              · -- pc 421: not (lcmpW (13 : Int64) ee) < (0 : Int32)
                refine Runs.by (fun _ hr => XS.ifYes XJ86.here hx rfl (pc0 := 421) (pc' := 451) rfl (hb hby at_421) rfl ((if0 _ _).trans (flt hc421).2.1) (by decide) (by decide) hr) ?_
                refine Runs.by (fun _ hr => XS.iconst XJ86.here hx rfl (hb hby at_451) hr) ?_
                exact JX2 (0 : Int32) _ _ XJ86 eJ86 NJ86 ⟨fun q => absurd rfl q, fun q => absurd q.1 hc421⟩
            show Runs p e below _ (TJ85.setTop (mkF m 384 #[.val (.int p0), .val (.int p1), .val (.int p2), .val (.int p3), .val (.int p4), .val (.int fr), .val (.int tt), .val (.ref b2), .val (.int (p3.toInt8.toInt32)), .val (.int kk), .val (.int ((p4 >>> ((8 : Int32) &&& 31)).toInt8.toInt32)), .val (.int z0), .val (.int z1), .val (.int z2), .val (.int z3), .val (.int bg), .val (.int nk), .val (.long ee), .second, .val (.int x0), .unset, .unset, .unset, .unset] []))
            refine Runs.by (fun _ hr => XJ85.ldc2J hx hown (mvT hZ (hw _ (List.mem_of_getElem? (i := 57) rfl))) (g := (mkF m 384 #[.val (.int p0), .val (.int p1), .val (.int p2), .val (.int p3), .val (.int p4), .val (.int fr), .val (.int tt), .val (.ref b2), .val (.int (p3.toInt8.toInt32)), .val (.int kk), .val (.int ((p4 >>> ((8 : Int32) &&& 31)).toInt8.toInt32)), .val (.int z0), .val (.int z1), .val (.int z2), .val (.int z3), .val (.int bg), .val (.int nk), .val (.long ee), .second, .val (.int x0), .unset, .unset, .unset, .unset] [])) rfl (hb hby at_384) hr) ?_
            refine Runs.by (fun _ hr => XS.lload XJ85.here hx rfl (hb hby at_387) rfl  hr) ?_
            refine Runs.by (fun _ hr => XS.lcmp XJ85.here hx rfl (hb hby at_389) rfl hr) ?_
            show Runs p e below _ (TJ85.setTop (mkF m 390 #[.val (.int p0), .val (.int p1), .val (.int p2), .val (.int p3), .val (.int p4), .val (.int fr), .val (.int tt), .val (.ref b2), .val (.int (p3.toInt8.toInt32)), .val (.int kk), .val (.int ((p4 >>> ((8 : Int32) &&& 31)).toInt8.toInt32)), .val (.int z0), .val (.int z1), .val (.int z2), .val (.int z3), .val (.int bg), .val (.int nk), .val (.long ee), .second, .val (.int x0), .unset, .unset, .unset, .unset] [(.int (lcmpW (12 : Int64) ee))]))
            by_cases hc390 : (lcmpW (12 : Int64) ee) < (0 : Int32)
            · -- pc 390: (lcmpW (12 : Int64) ee) < (0 : Int32)
              refine Runs.by (fun _ hr => XS.ifNo XJ85.here hx rfl (hb hby at_390) rfl ((if0 _ _).trans (tlt hc390).2.1) hr) ?_
              refine Runs.by (fun _ hr => XS.iload XJ85.here hx rfl (hb hby at_393) rfl  hr) ?_
              show Runs p e below _ (TJ85.setTop (mkF m 395 #[.val (.int p0), .val (.int p1), .val (.int p2), .val (.int p3), .val (.int p4), .val (.int fr), .val (.int tt), .val (.ref b2), .val (.int (p3.toInt8.toInt32)), .val (.int kk), .val (.int ((p4 >>> ((8 : Int32) &&& 31)).toInt8.toInt32)), .val (.int z0), .val (.int z1), .val (.int z2), .val (.int z3), .val (.int bg), .val (.int nk), .val (.long ee), .second, .val (.int x0), .unset, .unset, .unset, .unset] [(.int z0)]))
              obtain ⟨_, _, ⟨T94, L94, k94, n94⟩, -, X94, ⟨Lc94, hQ94, l94, y94, z94⟩, st94⟩ := Jvm.LawKit.callS XJ85 hx (y := (⟨"com/example/word_odds/wordodds/filter/VerdictFieldBeginsPinLaw", "ws", "(B)Z"⟩ : MethodName)) hown (mvT hZ (hw _ (List.mem_of_getElem? (i := 63) rfl))) (mvT hZ (hw _ (List.mem_of_getElem? (i := 64) rfl))) (mvT hZ (hw _ (List.mem_of_getElem? (i := 4) rfl))) (mvT hZ (hw _ (List.mem_of_getElem? (i := 65) rfl))) (by decide) (backOf (W := 0) (rm12 l Z a0 hw [] z0  hJ83 n0 (Nat.le_trans Z0 KJ83.1) ) hZ (hw _ (List.mem_of_getElem? (i := 65) rfl)) (hw _ (List.mem_of_getElem? (i := 4) rfl)) (by decide) (by decide)) (g := (mkF m 395 #[.val (.int p0), .val (.int p1), .val (.int p2), .val (.int p3), .val (.int p4), .val (.int fr), .val (.int tt), .val (.ref b2), .val (.int (p3.toInt8.toInt32)), .val (.int kk), .val (.int ((p4 >>> ((8 : Int32) &&& 31)).toInt8.toInt32)), .val (.int z0), .val (.int z1), .val (.int z2), .val (.int z3), .val (.int bg), .val (.int nk), .val (.long ee), .second, .val (.int x0), .unset, .unset, .unset, .unset] [(.int z0)])) rfl (by rw [hml]; rfl) (argsL := [(.int z0)]) (rest := []) (lenOf pd_10 rfl) rfl (by show 2 * 0 + _ ≤ _; exact Nat.le_of_eq rfl) (hb hby at_395) (fun _ _ => ⟨rfl, eJ85, (by decide : 9 + 0 ≤ _), (by decide : 216 + 0 ≤ _)⟩)
              dsimp only [Pt.U, Pt.locs, Pt.cells, Pt.slots] at X94 l94 y94 z94 st94 hQ94
              subst l94 y94 z94
              obtain ⟨rfl, Nq94, eq94⟩ := hQ94
              have N94 := Fr.app NJ85 Nq94
              refine Runs.by (fun t hr => st94 t hr) ?_
              by_cases hc398 : (own_ws z0) = (0 : Int32)
              · -- pc 398: (own_ws z0) = (0 : Int32)
                refine Runs.by (fun _ hr => XS.ifYes X94.here hx rfl (pc0 := 398) (pc' := 412) rfl (hb hby at_398) rfl ((if0 _ _).trans (teq hc398).1) (by decide) (by decide) hr) ?_
                refine Runs.by (fun _ hr => XS.iconst X94.here hx rfl (hb hby at_412) hr) ?_
                exact JX1 (0 : Int32) _ _ X94 eq94 N94 ⟨fun q => absurd rfl q, fun q => absurd hc398 q.2.1⟩
              · -- pc 398: not (own_ws z0) = (0 : Int32)
                refine Runs.by (fun _ hr => XS.ifNo X94.here hx rfl (hb hby at_398) rfl ((if0 _ _).trans (feq hc398).1) hr) ?_
                refine Runs.by (fun _ hr => XS.iload X94.here hx rfl (hb hby at_401) rfl  hr) ?_
                show Runs p e below _ (T94.setTop (mkF m 403 #[.val (.int p0), .val (.int p1), .val (.int p2), .val (.int p3), .val (.int p4), .val (.int fr), .val (.int tt), .val (.ref b2), .val (.int (p3.toInt8.toInt32)), .val (.int kk), .val (.int ((p4 >>> ((8 : Int32) &&& 31)).toInt8.toInt32)), .val (.int z0), .val (.int z1), .val (.int z2), .val (.int z3), .val (.int bg), .val (.int nk), .val (.long ee), .second, .val (.int x0), .unset, .unset, .unset, .unset] [(.int z1)]))
                refine Runs.by (fun _ hr => XS.bipush X94.here hx rfl (hb hby at_403) hr) ?_
                by_cases hc405 : z1 = (58 : Int32)
                · -- pc 405: z1 = (58 : Int32)
                  refine Runs.by (fun _ hr => XS.icmpNo X94.here hx rfl (hb hby at_405) rfl (teq hc405).2 hr) ?_
                  refine Runs.by (fun _ hr => XS.iconst X94.here hx rfl (hb hby at_408) hr) ?_
                  show Runs p e below _ (T94.setTop (mkF m 409 #[.val (.int p0), .val (.int p1), .val (.int p2), .val (.int p3), .val (.int p4), .val (.int fr), .val (.int tt), .val (.ref b2), .val (.int (p3.toInt8.toInt32)), .val (.int kk), .val (.int ((p4 >>> ((8 : Int32) &&& 31)).toInt8.toInt32)), .val (.int z0), .val (.int z1), .val (.int z2), .val (.int z3), .val (.int bg), .val (.int nk), .val (.long ee), .second, .val (.int x0), .unset, .unset, .unset, .unset] [(.int (1 : Int32))]))
                  refine Runs.by (fun _ hr => XS.goto X94.here hx rfl (pc0 := 409) (pc' := 413) rfl (hb hby at_409) (by decide) (by decide) hr) ?_
                  exact JX1 (1 : Int32) _ _ X94 eq94 N94 ⟨fun _ => ⟨hc390, hc398, hc405⟩, fun _ => by decide⟩
                · -- pc 405: not z1 = (58 : Int32)
                  refine Runs.by (fun _ hr => XS.icmpYes X94.here hx rfl (pc0 := 405) (pc' := 412) rfl (hb hby at_405) rfl (feq hc405).2 (by decide) (by decide) hr) ?_
                  refine Runs.by (fun _ hr => XS.iconst X94.here hx rfl (hb hby at_412) hr) ?_
                  exact JX1 (0 : Int32) _ _ X94 eq94 N94 ⟨fun q => absurd rfl q, fun q => absurd q.2.2 hc405⟩
            · -- pc 390: not (lcmpW (12 : Int64) ee) < (0 : Int32)
              refine Runs.by (fun _ hr => XS.ifYes XJ85.here hx rfl (pc0 := 390) (pc' := 412) rfl (hb hby at_390) rfl ((if0 _ _).trans (flt hc390).2.1) (by decide) (by decide) hr) ?_
              refine Runs.by (fun _ hr => XS.iconst XJ85.here hx rfl (hb hby at_412) hr) ?_
              exact JX1 (0 : Int32) _ _ XJ85 eJ85 NJ85 ⟨fun q => absurd rfl q, fun q => absurd q.1 hc390⟩
          show Runs p e below _ (T84.setTop (mkF m 361 #[.val (.int p0), .val (.int p1), .val (.int p2), .val (.int p3), .val (.int p4), .val (.int fr), .val (.int tt), .val (.ref b2), .val (.int (p3.toInt8.toInt32)), .val (.int kk), .val (.int ((p4 >>> ((8 : Int32) &&& 31)).toInt8.toInt32)), .val (.int z0), .val (.int z1), .val (.int z2), .val (.int z3), .val (.int bg), .val (.int nk), .val (.long ee), .second, .unset, .unset, .unset, .unset, .unset] []))
          refine Runs.by (fun _ hr => X84.ldc2J hx hown (mvT hZ (hw _ (List.mem_of_getElem? (i := 56) rfl))) (g := (mkF m 361 #[.val (.int p0), .val (.int p1), .val (.int p2), .val (.int p3), .val (.int p4), .val (.int fr), .val (.int tt), .val (.ref b2), .val (.int (p3.toInt8.toInt32)), .val (.int kk), .val (.int ((p4 >>> ((8 : Int32) &&& 31)).toInt8.toInt32)), .val (.int z0), .val (.int z1), .val (.int z2), .val (.int z3), .val (.int bg), .val (.int nk), .val (.long ee), .second, .unset, .unset, .unset, .unset, .unset] [])) rfl (hb hby at_361) hr) ?_
          refine Runs.by (fun _ hr => XS.lload X84.here hx rfl (hb hby at_364) rfl  hr) ?_
          refine Runs.by (fun _ hr => XS.lcmp X84.here hx rfl (hb hby at_366) rfl hr) ?_
          show Runs p e below _ (T84.setTop (mkF m 367 #[.val (.int p0), .val (.int p1), .val (.int p2), .val (.int p3), .val (.int p4), .val (.int fr), .val (.int tt), .val (.ref b2), .val (.int (p3.toInt8.toInt32)), .val (.int kk), .val (.int ((p4 >>> ((8 : Int32) &&& 31)).toInt8.toInt32)), .val (.int z0), .val (.int z1), .val (.int z2), .val (.int z3), .val (.int bg), .val (.int nk), .val (.long ee), .second, .unset, .unset, .unset, .unset, .unset] [(.int (lcmpW (11 : Int64) ee))]))
          by_cases hc367 : (lcmpW (11 : Int64) ee) < (0 : Int32)
          · -- pc 367: (lcmpW (11 : Int64) ee) < (0 : Int32)
            refine Runs.by (fun _ hr => XS.ifNo X84.here hx rfl (hb hby at_367) rfl ((if0 _ _).trans (tlt hc367).2.1) hr) ?_
            refine Runs.by (fun _ hr => XS.iload X84.here hx rfl (hb hby at_370) rfl  hr) ?_
            refine Runs.by (fun _ hr => XS.bipush X84.here hx rfl (hb hby at_372) hr) ?_
            show Runs p e below _ (T84.setTop (mkF m 374 #[.val (.int p0), .val (.int p1), .val (.int p2), .val (.int p3), .val (.int p4), .val (.int fr), .val (.int tt), .val (.ref b2), .val (.int (p3.toInt8.toInt32)), .val (.int kk), .val (.int ((p4 >>> ((8 : Int32) &&& 31)).toInt8.toInt32)), .val (.int z0), .val (.int z1), .val (.int z2), .val (.int z3), .val (.int bg), .val (.int nk), .val (.long ee), .second, .unset, .unset, .unset, .unset, .unset] [(.int (58 : Int32)), (.int z0)]))
            by_cases hc374 : z0 = (58 : Int32)
            · -- pc 374: z0 = (58 : Int32)
              refine Runs.by (fun _ hr => XS.icmpNo X84.here hx rfl (hb hby at_374) rfl (teq hc374).2 hr) ?_
              refine Runs.by (fun _ hr => XS.iconst X84.here hx rfl (hb hby at_377) hr) ?_
              refine Runs.by (fun _ hr => XS.goto X84.here hx rfl (pc0 := 378) (pc' := 382) rfl (hb hby at_378) (by decide) (by decide) hr) ?_
              exact JX0 (1 : Int32) _ _ X84 eq84 N84 ⟨fun _ => ⟨hc367, hc374⟩, fun _ => by decide⟩
            · -- pc 374: not z0 = (58 : Int32)
              refine Runs.by (fun _ hr => XS.icmpYes X84.here hx rfl (pc0 := 374) (pc' := 381) rfl (hb hby at_374) rfl (feq hc374).2 (by decide) (by decide) hr) ?_
              refine Runs.by (fun _ hr => XS.iconst X84.here hx rfl (hb hby at_381) hr) ?_
              exact JX0 (0 : Int32) _ _ X84 eq84 N84 ⟨fun q => absurd rfl q, fun q => absurd q.2 hc374⟩
          · -- pc 367: not (lcmpW (11 : Int64) ee) < (0 : Int32)
            refine Runs.by (fun _ hr => XS.ifYes X84.here hx rfl (pc0 := 367) (pc' := 381) rfl (hb hby at_367) rfl ((if0 _ _).trans (flt hc367).2.1) (by decide) (by decide) hr) ?_
            refine Runs.by (fun _ hr => XS.iconst X84.here hx rfl (hb hby at_381) hr) ?_
            exact JX0 (0 : Int32) _ _ X84 eq84 N84 ⟨fun q => absurd rfl q, fun q => absurd q.1 hc367⟩
        refine Runs.by (fun _ hr => XS.iload X82.here hx rfl (hb hby at_308) rfl  hr) ?_
        show Runs p e below _ (T82.setTop (mkF m 310 #[.val (.int p0), .val (.int p1), .val (.int p2), .val (.int p3), .val (.int p4), .val (.int fr), .val (.int tt), .val (.ref b2), .val (.int (p3.toInt8.toInt32)), .val (.int kk), .val (.int ((p4 >>> ((8 : Int32) &&& 31)).toInt8.toInt32)), .val (.int z0), .val (.int z1), .val (.int z2), .val (.int z3), .val (.int bg), .unset, .unset, .unset, .unset, .unset, .unset, .unset, .unset] [(.int kk)]))
        refine Runs.by (fun _ hr => XS.bipush X82.here hx rfl (hb hby at_310) hr) ?_
        have hc312 : kk = (11 : Int32) := (own_keq hk12 hc193)
        refine Runs.by (fun _ hr => XS.icmpYes X82.here hx rfl (pc0 := 312) (pc' := 339) rfl (hb hby at_312) rfl (teq hc312).1 (by decide) (by decide) hr) ?_
        refine Runs.by (fun _ hr => XS.iconst X82.here hx rfl (hb hby at_339) hr) ?_
        show Runs p e below _ (T82.setTop (mkF m 340 #[.val (.int p0), .val (.int p1), .val (.int p2), .val (.int p3), .val (.int p4), .val (.int fr), .val (.int tt), .val (.ref b2), .val (.int (p3.toInt8.toInt32)), .val (.int kk), .val (.int ((p4 >>> ((8 : Int32) &&& 31)).toInt8.toInt32)), .val (.int z0), .val (.int z1), .val (.int z2), .val (.int z3), .val (.int bg), .unset, .unset, .unset, .unset, .unset, .unset, .unset, .unset] [(.int (1 : Int32))]))
        refine Runs.by (fun _ hr => XS.goto X82.here hx rfl (pc0 := 340) (pc' := 344) rfl (hb hby at_340) (by decide) (by decide) hr) ?_
        exact JN (1 : Int32) _ _ _ _ _ (X82.mono (by decide) (by decide)) eq82 N82 K81 O_81 hC hS hk hZ hown   (hN0.trans (if_neg (by decide)).symm)
    have JC9 : ∀ (nb0 nb1 nb2 nb3 nb4 nb5 nb6 nb7 nb8 nb9 : Int32) (cJ9 sJ9 : Nat) (wl9 : Nat → Int32) (TJ31 : State) (hJ31 : Heap) (lJ31 : List Loc) (vJ31 : Vm) (kJ31 : Nat) (XJ31 : Stand p l e room_1 (s.setVm vJ31) m #[(.int p0), (.int p1), (.int p2), (.int p3), (.int p4)] below meth c TJ31 lJ31 cJ9 sJ9) (eJ31 : TJ31.heap = hJ31) (NJ31 : Fr n0 lJ31) (KJ31 : Keep h0 hJ31 []) (OJ31 : Old Z n0 hJ31) (hCJ31 : CHr Z consts_1 s.vm s.heap vJ31 hJ31) (hSJ31 : s.Since vJ31 kJ31) (hkJ31 : kJ31 ≤ hJ31.size) (hZJ31 : Z.Warmed39 vJ31) (hoJ31 : vJ31.findClass "com/example/word_odds/wordodds/filter/VerdictFieldBeginsPinLaw" = some m.cls) (fJ31_0 : Arf Z hJ31 b2 k2 .byte (24 : Int32) (fun j_ => .int (wl9 j_))) (Sf31_b2 : Safe Z consts_1 vJ31 hJ31 b2) (hnb0 : own_lc (nar .byte nb0) = (120 : Int32)) (hnb1 : own_lc (nar .byte nb1) = (45 : Int32)) (hnb2 : own_lc (nar .byte nb2) = (119 : Int32)) (hnb3 : own_lc (nar .byte nb3) = (111 : Int32)) (hnb4 : own_lc (nar .byte nb4) = (114 : Int32)) (hnb5 : own_lc (nar .byte nb5) = (100 : Int32)) (hnb6 : own_lc (nar .byte nb6) = (45 : Int32)) (hnb7 : own_lc (nar .byte nb7) = (111 : Int32)) (hnb8 : own_lc (nar .byte nb8) = (100 : Int32)) (hnb9 : own_lc (nar .byte nb9) = (100 : Int32)) (hwl9 : wl9 = (own_up (own_up (own_up (own_up (own_up (own_up (own_up (own_up (own_up (fun _ => (0 : Int32)) (f + 0) (nar .byte nb0)) (f + 1) (nar .byte nb1)) (f + 2) (nar .byte nb2)) (f + 3) (nar .byte nb3)) (f + 4) (nar .byte nb4)) (f + 5) (nar .byte nb5)) (f + 6) (nar .byte nb6)) (f + 7) (nar .byte nb7)) (f + 8) (nar .byte nb8))) (inv : own_inv Z vJ31 hJ31 b2 cJ9 sJ9), Runs p e below (QEW Z consts_1 s (Q_rm0 Z p0 p1 p2 p3 p4 gC vG lo ko h0 n0) room_1.cells room_1.slots) (TJ31.setTop (mkF m 158 #[.val (.int p0), .val (.int p1), .val (.int p2), .val (.int p3), .val (.int p4), .val (.int fr), .val (.int tt), .val (.ref b2), .unset, .unset, .unset, .unset, .unset, .unset, .unset, .unset, .unset, .unset, .unset, .unset, .unset, .unset, .unset, .unset] [(.int nb9), (.int (fr + (9 : Int32))), (.ref b2)])) := by
      intro nb0 nb1 nb2 nb3 nb4 nb5 nb6 nb7 nb8 nb9 cJ9 sJ9 wl9 TJ31 hJ31 lJ31 vJ31 kJ31 XJ31 eJ31 NJ31 KJ31 OJ31 hC hS hk hZ hown fJ31_0 Sf31_b2 hnb0 hnb1 hnb2 hnb3 hnb4 hnb5 hnb6 hnb7 hnb8 hnb9 hwl9 inv
      show Runs p e below _ (TJ31.setTop (mkF m 158 #[.val (.int p0), .val (.int p1), .val (.int p2), .val (.int p3), .val (.int p4), .val (.int fr), .val (.int tt), .val (.ref b2), .unset, .unset, .unset, .unset, .unset, .unset, .unset, .unset, .unset, .unset, .unset, .unset, .unset, .unset, .unset, .unset] [(.int nb9), (.int (fr + (9 : Int32))), (.ref b2)]))
      obtain ⟨cl32, Ar32, q32, S32, N32', H32⟩ := id fJ31_0
      have ix32 := own_ix (j := (fr + (9 : Int32))) (z := (24 : Int32)) (n := f + 9) (own_ad hf h3 (n := 9) (by decide) (by decide)) (own_ad24 hf h3 (n := 9) (by decide) (by decide))
      have hin32 : ¬ ((fr + (9 : Int32)) < 0 ∨ cl32.slots.size ≤ ((fr + (9 : Int32))).toNatClampNeg) := inb_of S32 ix32.1
      obtain ⟨T32, h32, X32, e32, W32, st32⟩ := stB XJ31 hx hZ eJ31 Ar32 (j := (fr + (9 : Int32))) hin32 (g := (mkF m 158 #[.val (.int p0), .val (.int p1), .val (.int p2), .val (.int p3), .val (.int p4), .val (.int fr), .val (.int tt), .val (.ref b2), .unset, .unset, .unset, .unset, .unset, .unset, .unset, .unset, .unset, .unset, .unset, .unset, .unset, .unset, .unset, .unset] [(.int nb9), (.int (fr + (9 : Int32))), (.ref b2)])) rfl rfl (hb hby at_158)
      have G32 : Arf Z h32 b2 k2 .byte (24 : Int32) (fun j_ => .int ((own_up wl9 (f + 9) (nar .byte nb9)) j_)) := (Arf.set Ar32 q32 S32 N32' H32 W32 ix32.2.1).cast (fun j_ _ => own_up_map Value.int _ _ _ j_)
      have K33 : Keep h0 h32 [] := KJ31.wr W32 (Or.inr sz_b2)
      have O_33 : Old Z n0 h32 := OJ31.wr W32 g_b2
      have Sf31_b2__K33 := Safe.wr W32 Sf31_b2 hC.1 Sf31_b2
      have hk : _ ≤ h32.size := Nat.le_trans hk (Keep.of_wr W32).1
      have hC := hC.trans (CHr.wr W32 Sf31_b2 hC.1)
      have inv := inv.wr W32
      have N32 := Fr.snoc X32 NJ31 g_b2
      refine Runs.by st32 ?_
      refine Runs.by (fun _ hr => XS.aload X32.here hx rfl (hb hby at_159) rfl rfl hr) ?_
      refine Runs.by (fun _ hr => XS.iload X32.here hx rfl (hb hby at_161) rfl  hr) ?_
      show Runs p e below _ (T32.setTop (mkF m 163 #[.val (.int p0), .val (.int p1), .val (.int p2), .val (.int p3), .val (.int p4), .val (.int fr), .val (.int tt), .val (.ref b2), .unset, .unset, .unset, .unset, .unset, .unset, .unset, .unset, .unset, .unset, .unset, .unset, .unset, .unset, .unset, .unset] [(.int fr), (.ref b2)]))
      refine Runs.by (fun _ hr => XS.bipush X32.here hx rfl (hb hby at_163) hr) ?_
      refine Runs.by (fun _ hr => XS.iadd X32.here hx rfl (hb hby at_165) rfl hr) ?_
      refine Runs.by (fun _ hr => XS.bipush X32.here hx rfl (hb hby at_166) hr) ?_
      show Runs p e below _ (T32.setTop (mkF m 168 #[.val (.int p0), .val (.int p1), .val (.int p2), .val (.int p3), .val (.int p4), .val (.int fr), .val (.int tt), .val (.ref b2), .unset, .unset, .unset, .unset, .unset, .unset, .unset, .unset, .unset, .unset, .unset, .unset, .unset, .unset, .unset, .unset] [(.int (10 : Int32)), (.int (fr + (10 : Int32))), (.ref b2)]))
      refine Runs.by (fun _ hr => XS.iloadN X32.here hx rfl (hb hby at_168) rfl  hr) ?_
      rcases inv with ⟨rfl, rfl⟩ | ⟨rfl, rfl, LSl⟩ | ⟨rfl, rfl, LSu⟩ | ⟨rfl, rfl, LSl, LSu⟩
      · skip
        by_cases hbit10 : ((p2 >>> ((10 : Int32) &&& 31)) &&& (1 : Int32)) = (0 : Int32)
        · skip
          show Runs p e below _ (T32.setTop (mkF m 169 #[.val (.int p0), .val (.int p1), .val (.int p2), .val (.int p3), .val (.int p4), .val (.int fr), .val (.int tt), .val (.ref b2), .unset, .unset, .unset, .unset, .unset, .unset, .unset, .unset, .unset, .unset, .unset, .unset, .unset, .unset, .unset, .unset] [(.int p2), (.int (10 : Int32)), (.int (fr + (10 : Int32))), (.ref b2)]))
          obtain ⟨_, _, ⟨T95, L95, k95, n95⟩, -, X95, hSq95, hgq95, ⟨Lc95, hQ95, l95, y95, z95, hr95⟩, st95⟩ := callSS X32 hx (y := (⟨"com/example/word_odds/wordodds/filter/VerdictFieldBeginsPinLaw", "nameByte", "(II)B"⟩ : MethodName)) hown (mvT hZ (hw _ (List.mem_of_getElem? (i := 2) rfl))) (mvT hZ (hw _ (List.mem_of_getElem? (i := 3) rfl))) (mvT hZ (hw _ (List.mem_of_getElem? (i := 4) rfl))) (mvT hZ (hw _ (List.mem_of_getElem? (i := 5) rfl))) (by decide) (own_backX (W := 2) (PX := fun _ => True) (rm1_24c l Z a0 hw [] (10 : Int32) p2 gC vG (115 : Int32) (115 : Int32) b2 k2 (own_up wl9 (f + 9) (nar .byte nb9))  h32 n0 (Nat.le_trans Z0 K33.1) (SC.ext O_33.2) cC hvG (SG.ext O_33.2) hbit10 ⟨by decide, by decide⟩ rfl (by decide) (by decide) G32 hEL) hZ (hw _ (List.mem_of_getElem? (i := 5) rfl)) (hw _ (List.mem_of_getElem? (i := 4) rfl)) (by decide) (by decide) hEL hC.1 G32.lt Sf31_b2__K33 (fun _ _ => trivial)) (g := (mkF m 169 #[.val (.int p0), .val (.int p1), .val (.int p2), .val (.int p3), .val (.int p4), .val (.int fr), .val (.int tt), .val (.ref b2), .unset, .unset, .unset, .unset, .unset, .unset, .unset, .unset, .unset, .unset, .unset, .unset, .unset, .unset, .unset, .unset] [(.int p2), (.int (10 : Int32)), (.int (fr + (10 : Int32))), (.ref b2)])) rfl (by rw [hml]; rfl) (argsL := [(.int (10 : Int32)), (.int p2)]) (rest := [(.int (fr + (10 : Int32))), (.ref b2)]) (lenOf pd_11 rfl) rfl (by show 2 * 0 + _ ≤ _; exact Nat.le_of_eq rfl) (hb hby at_169) (fun _ _ => ⟨rfl, e32, (by decide : 1 + 2 ≤ _), (by decide : 24 + 48 ≤ _)⟩)
          dsimp only [Pt.U, Pt.locs, Pt.cells, Pt.slots] at X95 l95 y95 z95 st95 hQ95
          subst l95 y95 z95
          dsimp only [Pt.U, Pt.locs, Pt.cells, Pt.slots] at hSq95 hgq95 hr95
          obtain ⟨X95, hS, hZ, hown⟩ := rebS hS (by rw [e32]; exact hk) X95 hSq95 hgq95 hZ hown
          have hk := Nat.le_refl T95.heap.size
          have Sf31_b2__C95 := CHr.safe hr95 G32.lt Sf31_b2__K33
          have hC := hC.trans hr95
          obtain ⟨rfl, Nq95, Kq95, LSq95⟩ := hQ95
          have N95 := Fr.app N32 Nq95
          have K96 : Keep h0 T95.heap [] := Keep.trans (ws := []) K33 Kq95 all0
          have O_96 : Old Z n0 T95.heap := O_33.keep Kq95 all0
          refine Runs.by (fun _ hr => st95.trans hr) ?_
          exact JC10 nb0 nb1 nb2 nb3 nb4 nb5 nb6 nb7 nb8 nb9 (115 : Int32) _ _ (own_up wl9 (f + 9) (nar .byte nb9)) _ _ _ _ _ X95 rfl N95 K96 O_96 hC hS hk hZ hown (G32.keep Kq95 nin0) Sf31_b2__C95 hnb0 hnb1 hnb2 hnb3 hnb4 hnb5 hnb6 hnb7 hnb8 hnb9 (by decide) (by rw [hwl9]) (Or.inr (Or.inl ⟨rfl, rfl, LSq95⟩))
        · skip
          show Runs p e below _ (T32.setTop (mkF m 169 #[.val (.int p0), .val (.int p1), .val (.int p2), .val (.int p3), .val (.int p4), .val (.int fr), .val (.int tt), .val (.ref b2), .unset, .unset, .unset, .unset, .unset, .unset, .unset, .unset, .unset, .unset, .unset, .unset, .unset, .unset, .unset, .unset] [(.int p2), (.int (10 : Int32)), (.int (fr + (10 : Int32))), (.ref b2)]))
          obtain ⟨_, _, ⟨T97, L97, k97, n97⟩, -, X97, hSq97, hgq97, ⟨Lc97, hQ97, l97, y97, z97, hr97⟩, st97⟩ := callSS X32 hx (y := (⟨"com/example/word_odds/wordodds/filter/VerdictFieldBeginsPinLaw", "nameByte", "(II)B"⟩ : MethodName)) hown (mvT hZ (hw _ (List.mem_of_getElem? (i := 2) rfl))) (mvT hZ (hw _ (List.mem_of_getElem? (i := 3) rfl))) (mvT hZ (hw _ (List.mem_of_getElem? (i := 4) rfl))) (mvT hZ (hw _ (List.mem_of_getElem? (i := 5) rfl))) (by decide) (own_backX (W := 2) (PX := fun _ => True) (rm1_32c l Z a0 hw [] (10 : Int32) p2 gC vG (83 : Int32) (83 : Int32) b2 k2 (own_up wl9 (f + 9) (nar .byte nb9))  h32 n0 (Nat.le_trans Z0 K33.1) (SC.ext O_33.2) cC hvG (SG.ext O_33.2) hbit10 ⟨by decide, by decide⟩ rfl (by decide) (by decide) G32 hEL) hZ (hw _ (List.mem_of_getElem? (i := 5) rfl)) (hw _ (List.mem_of_getElem? (i := 4) rfl)) (by decide) (by decide) hEL hC.1 G32.lt Sf31_b2__K33 (fun _ _ => trivial)) (g := (mkF m 169 #[.val (.int p0), .val (.int p1), .val (.int p2), .val (.int p3), .val (.int p4), .val (.int fr), .val (.int tt), .val (.ref b2), .unset, .unset, .unset, .unset, .unset, .unset, .unset, .unset, .unset, .unset, .unset, .unset, .unset, .unset, .unset, .unset] [(.int p2), (.int (10 : Int32)), (.int (fr + (10 : Int32))), (.ref b2)])) rfl (by rw [hml]; rfl) (argsL := [(.int (10 : Int32)), (.int p2)]) (rest := [(.int (fr + (10 : Int32))), (.ref b2)]) (lenOf pd_11 rfl) rfl (by show 2 * 0 + _ ≤ _; exact Nat.le_of_eq rfl) (hb hby at_169) (fun _ _ => ⟨rfl, e32, (by decide : 1 + 2 ≤ _), (by decide : 24 + 48 ≤ _)⟩)
          dsimp only [Pt.U, Pt.locs, Pt.cells, Pt.slots] at X97 l97 y97 z97 st97 hQ97
          subst l97 y97 z97
          dsimp only [Pt.U, Pt.locs, Pt.cells, Pt.slots] at hSq97 hgq97 hr97
          obtain ⟨X97, hS, hZ, hown⟩ := rebS hS (by rw [e32]; exact hk) X97 hSq97 hgq97 hZ hown
          have hk := Nat.le_refl T97.heap.size
          have Sf31_b2__C97 := CHr.safe hr97 G32.lt Sf31_b2__K33
          have hC := hC.trans hr97
          obtain ⟨rfl, Nq97, Kq97, LSq97⟩ := hQ97
          have N97 := Fr.app N32 Nq97
          have K98 : Keep h0 T97.heap [] := Keep.trans (ws := []) K33 Kq97 all0
          have O_98 : Old Z n0 T97.heap := O_33.keep Kq97 all0
          refine Runs.by (fun _ hr => st97.trans hr) ?_
          exact JC10 nb0 nb1 nb2 nb3 nb4 nb5 nb6 nb7 nb8 nb9 (83 : Int32) _ _ (own_up wl9 (f + 9) (nar .byte nb9)) _ _ _ _ _ X97 rfl N97 K98 O_98 hC hS hk hZ hown (G32.keep Kq97 nin0) Sf31_b2__C97 hnb0 hnb1 hnb2 hnb3 hnb4 hnb5 hnb6 hnb7 hnb8 hnb9 (by decide) (by rw [hwl9]) (Or.inr (Or.inr (Or.inl ⟨rfl, rfl, LSq97⟩)))
      · skip
        by_cases hbit10 : ((p2 >>> ((10 : Int32) &&& 31)) &&& (1 : Int32)) = (0 : Int32)
        · skip
          obtain ⟨la, lb, lk, lLi, lfE, lfC, lfV, lfA, -, -⟩ := id LSl
          show Runs p e below _ (T32.setTop (mkF m 169 #[.val (.int p0), .val (.int p1), .val (.int p2), .val (.int p3), .val (.int p4), .val (.int fr), .val (.int tt), .val (.ref b2), .unset, .unset, .unset, .unset, .unset, .unset, .unset, .unset, .unset, .unset, .unset, .unset, .unset, .unset, .unset, .unset] [(.int p2), (.int (10 : Int32)), (.int (fr + (10 : Int32))), (.ref b2)]))
          obtain ⟨_, _, ⟨T99, L99, k99, n99⟩, -, X99, hSq99, hgq99, ⟨Lc99, hQ99, l99, y99, z99, hr99⟩, st99⟩ := callSS X32 hx (y := (⟨"com/example/word_odds/wordodds/filter/VerdictFieldBeginsPinLaw", "nameByte", "(II)B"⟩ : MethodName)) hown (mvT hZ (hw _ (List.mem_of_getElem? (i := 2) rfl))) (mvT hZ (hw _ (List.mem_of_getElem? (i := 3) rfl))) (mvT hZ (hw _ (List.mem_of_getElem? (i := 4) rfl))) (mvT hZ (hw _ (List.mem_of_getElem? (i := 5) rfl))) (by decide) (own_backX (W := 2) (PX := fun vm_ => Lit (Z.setVm vm_) "com/example/word_odds/wordodds/filter/VerdictFieldBeginsPinLaw" 24 la) (rm1_24w l Z a0 hw [] (10 : Int32) p2 gC vG (115 : Int32) (115 : Int32) b2 k2 (own_up wl9 (f + 9) (nar .byte nb9)) la lb lk  h32 n0 (Nat.le_trans Z0 K33.1) (SC.ext O_33.2) cC hvG (SG.ext O_33.2) hbit10 ⟨by decide, by decide⟩ rfl (by decide) (by decide) G32 lfE lfC lfV lfA hEL) hZ (hw _ (List.mem_of_getElem? (i := 5) rfl)) (hw _ (List.mem_of_getElem? (i := 4) rfl)) (by decide) (by decide) hEL hC.1 G32.lt Sf31_b2__K33 (fun _ q => own_lstay (s := s) lLi q)) (g := (mkF m 169 #[.val (.int p0), .val (.int p1), .val (.int p2), .val (.int p3), .val (.int p4), .val (.int fr), .val (.int tt), .val (.ref b2), .unset, .unset, .unset, .unset, .unset, .unset, .unset, .unset, .unset, .unset, .unset, .unset, .unset, .unset, .unset, .unset] [(.int p2), (.int (10 : Int32)), (.int (fr + (10 : Int32))), (.ref b2)])) rfl (by rw [hml]; rfl) (argsL := [(.int (10 : Int32)), (.int p2)]) (rest := [(.int (fr + (10 : Int32))), (.ref b2)]) (lenOf pd_11 rfl) rfl (by show 2 * 0 + _ ≤ _; exact Nat.le_of_eq rfl) (hb hby at_169) (fun _ _ => ⟨rfl, e32, (by decide : 3 + 0 ≤ _), (by decide : 72 + 0 ≤ _)⟩)
          dsimp only [Pt.U, Pt.locs, Pt.cells, Pt.slots] at X99 l99 y99 z99 st99 hQ99
          subst l99 y99 z99
          dsimp only [Pt.U, Pt.locs, Pt.cells, Pt.slots] at hSq99 hgq99 hr99
          obtain ⟨X99, hS, hZ, hown⟩ := rebS hS (by rw [e32]; exact hk) X99 hSq99 hgq99 hZ hown
          have hk := Nat.le_refl T99.heap.size
          have Sf31_b2__C99 := CHr.safe hr99 G32.lt Sf31_b2__K33
          have hC := hC.trans hr99
          obtain ⟨rfl, Nq99, Kq99⟩ := hQ99
          have N99 := Fr.app N32 Nq99
          have K100 : Keep h0 T99.heap [] := Keep.trans (ws := []) K33 Kq99 all0
          have O_100 : Old Z n0 T99.heap := O_33.keep Kq99 all0
          refine Runs.by (fun _ hr => st99.trans hr) ?_
          exact JC10 nb0 nb1 nb2 nb3 nb4 nb5 nb6 nb7 nb8 nb9 (115 : Int32) _ _ (own_up wl9 (f + 9) (nar .byte nb9)) _ _ _ _ _ X99 rfl N99 K100 O_100 hC hS hk hZ hown (G32.keep Kq99 nin0) Sf31_b2__C99 hnb0 hnb1 hnb2 hnb3 hnb4 hnb5 hnb6 hnb7 hnb8 hnb9 (by decide) (by rw [hwl9]) (Or.inr (Or.inl ⟨rfl, rfl, (LSl.step hSq99.1 Kq99)⟩))
        · skip
          show Runs p e below _ (T32.setTop (mkF m 169 #[.val (.int p0), .val (.int p1), .val (.int p2), .val (.int p3), .val (.int p4), .val (.int fr), .val (.int tt), .val (.ref b2), .unset, .unset, .unset, .unset, .unset, .unset, .unset, .unset, .unset, .unset, .unset, .unset, .unset, .unset, .unset, .unset] [(.int p2), (.int (10 : Int32)), (.int (fr + (10 : Int32))), (.ref b2)]))
          obtain ⟨_, _, ⟨T101, L101, k101, n101⟩, -, X101, hSq101, hgq101, ⟨Lc101, hQ101, l101, y101, z101, hr101⟩, st101⟩ := callSS X32 hx (y := (⟨"com/example/word_odds/wordodds/filter/VerdictFieldBeginsPinLaw", "nameByte", "(II)B"⟩ : MethodName)) hown (mvT hZ (hw _ (List.mem_of_getElem? (i := 2) rfl))) (mvT hZ (hw _ (List.mem_of_getElem? (i := 3) rfl))) (mvT hZ (hw _ (List.mem_of_getElem? (i := 4) rfl))) (mvT hZ (hw _ (List.mem_of_getElem? (i := 5) rfl))) (by decide) (own_backX (W := 2) (PX := fun _ => True) (rm1_32c l Z a0 hw [] (10 : Int32) p2 gC vG (83 : Int32) (83 : Int32) b2 k2 (own_up wl9 (f + 9) (nar .byte nb9))  h32 n0 (Nat.le_trans Z0 K33.1) (SC.ext O_33.2) cC hvG (SG.ext O_33.2) hbit10 ⟨by decide, by decide⟩ rfl (by decide) (by decide) G32 hEL) hZ (hw _ (List.mem_of_getElem? (i := 5) rfl)) (hw _ (List.mem_of_getElem? (i := 4) rfl)) (by decide) (by decide) hEL hC.1 G32.lt Sf31_b2__K33 (fun _ _ => trivial)) (g := (mkF m 169 #[.val (.int p0), .val (.int p1), .val (.int p2), .val (.int p3), .val (.int p4), .val (.int fr), .val (.int tt), .val (.ref b2), .unset, .unset, .unset, .unset, .unset, .unset, .unset, .unset, .unset, .unset, .unset, .unset, .unset, .unset, .unset, .unset] [(.int p2), (.int (10 : Int32)), (.int (fr + (10 : Int32))), (.ref b2)])) rfl (by rw [hml]; rfl) (argsL := [(.int (10 : Int32)), (.int p2)]) (rest := [(.int (fr + (10 : Int32))), (.ref b2)]) (lenOf pd_11 rfl) rfl (by show 2 * 0 + _ ≤ _; exact Nat.le_of_eq rfl) (hb hby at_169) (fun _ _ => ⟨rfl, e32, (by decide : 3 + 2 ≤ _), (by decide : 72 + 48 ≤ _)⟩)
          dsimp only [Pt.U, Pt.locs, Pt.cells, Pt.slots] at X101 l101 y101 z101 st101 hQ101
          subst l101 y101 z101
          dsimp only [Pt.U, Pt.locs, Pt.cells, Pt.slots] at hSq101 hgq101 hr101
          obtain ⟨X101, hS, hZ, hown⟩ := rebS hS (by rw [e32]; exact hk) X101 hSq101 hgq101 hZ hown
          have hk := Nat.le_refl T101.heap.size
          have Sf31_b2__C101 := CHr.safe hr101 G32.lt Sf31_b2__K33
          have hC := hC.trans hr101
          obtain ⟨rfl, Nq101, Kq101, LSq101⟩ := hQ101
          have N101 := Fr.app N32 Nq101
          have K102 : Keep h0 T101.heap [] := Keep.trans (ws := []) K33 Kq101 all0
          have O_102 : Old Z n0 T101.heap := O_33.keep Kq101 all0
          refine Runs.by (fun _ hr => st101.trans hr) ?_
          exact JC10 nb0 nb1 nb2 nb3 nb4 nb5 nb6 nb7 nb8 nb9 (83 : Int32) _ _ (own_up wl9 (f + 9) (nar .byte nb9)) _ _ _ _ _ X101 rfl N101 K102 O_102 hC hS hk hZ hown (G32.keep Kq101 nin0) Sf31_b2__C101 hnb0 hnb1 hnb2 hnb3 hnb4 hnb5 hnb6 hnb7 hnb8 hnb9 (by decide) (by rw [hwl9]) (Or.inr (Or.inr (Or.inr ⟨rfl, rfl, (LSl.step hSq101.1 Kq101), LSq101⟩)))
      · skip
        by_cases hbit10 : ((p2 >>> ((10 : Int32) &&& 31)) &&& (1 : Int32)) = (0 : Int32)
        · skip
          show Runs p e below _ (T32.setTop (mkF m 169 #[.val (.int p0), .val (.int p1), .val (.int p2), .val (.int p3), .val (.int p4), .val (.int fr), .val (.int tt), .val (.ref b2), .unset, .unset, .unset, .unset, .unset, .unset, .unset, .unset, .unset, .unset, .unset, .unset, .unset, .unset, .unset, .unset] [(.int p2), (.int (10 : Int32)), (.int (fr + (10 : Int32))), (.ref b2)]))
          obtain ⟨_, _, ⟨T103, L103, k103, n103⟩, -, X103, hSq103, hgq103, ⟨Lc103, hQ103, l103, y103, z103, hr103⟩, st103⟩ := callSS X32 hx (y := (⟨"com/example/word_odds/wordodds/filter/VerdictFieldBeginsPinLaw", "nameByte", "(II)B"⟩ : MethodName)) hown (mvT hZ (hw _ (List.mem_of_getElem? (i := 2) rfl))) (mvT hZ (hw _ (List.mem_of_getElem? (i := 3) rfl))) (mvT hZ (hw _ (List.mem_of_getElem? (i := 4) rfl))) (mvT hZ (hw _ (List.mem_of_getElem? (i := 5) rfl))) (by decide) (own_backX (W := 2) (PX := fun _ => True) (rm1_24c l Z a0 hw [] (10 : Int32) p2 gC vG (115 : Int32) (115 : Int32) b2 k2 (own_up wl9 (f + 9) (nar .byte nb9))  h32 n0 (Nat.le_trans Z0 K33.1) (SC.ext O_33.2) cC hvG (SG.ext O_33.2) hbit10 ⟨by decide, by decide⟩ rfl (by decide) (by decide) G32 hEL) hZ (hw _ (List.mem_of_getElem? (i := 5) rfl)) (hw _ (List.mem_of_getElem? (i := 4) rfl)) (by decide) (by decide) hEL hC.1 G32.lt Sf31_b2__K33 (fun _ _ => trivial)) (g := (mkF m 169 #[.val (.int p0), .val (.int p1), .val (.int p2), .val (.int p3), .val (.int p4), .val (.int fr), .val (.int tt), .val (.ref b2), .unset, .unset, .unset, .unset, .unset, .unset, .unset, .unset, .unset, .unset, .unset, .unset, .unset, .unset, .unset, .unset] [(.int p2), (.int (10 : Int32)), (.int (fr + (10 : Int32))), (.ref b2)])) rfl (by rw [hml]; rfl) (argsL := [(.int (10 : Int32)), (.int p2)]) (rest := [(.int (fr + (10 : Int32))), (.ref b2)]) (lenOf pd_11 rfl) rfl (by show 2 * 0 + _ ≤ _; exact Nat.le_of_eq rfl) (hb hby at_169) (fun _ _ => ⟨rfl, e32, (by decide : 3 + 2 ≤ _), (by decide : 72 + 48 ≤ _)⟩)
          dsimp only [Pt.U, Pt.locs, Pt.cells, Pt.slots] at X103 l103 y103 z103 st103 hQ103
          subst l103 y103 z103
          dsimp only [Pt.U, Pt.locs, Pt.cells, Pt.slots] at hSq103 hgq103 hr103
          obtain ⟨X103, hS, hZ, hown⟩ := rebS hS (by rw [e32]; exact hk) X103 hSq103 hgq103 hZ hown
          have hk := Nat.le_refl T103.heap.size
          have Sf31_b2__C103 := CHr.safe hr103 G32.lt Sf31_b2__K33
          have hC := hC.trans hr103
          obtain ⟨rfl, Nq103, Kq103, LSq103⟩ := hQ103
          have N103 := Fr.app N32 Nq103
          have K104 : Keep h0 T103.heap [] := Keep.trans (ws := []) K33 Kq103 all0
          have O_104 : Old Z n0 T103.heap := O_33.keep Kq103 all0
          refine Runs.by (fun _ hr => st103.trans hr) ?_
          exact JC10 nb0 nb1 nb2 nb3 nb4 nb5 nb6 nb7 nb8 nb9 (115 : Int32) _ _ (own_up wl9 (f + 9) (nar .byte nb9)) _ _ _ _ _ X103 rfl N103 K104 O_104 hC hS hk hZ hown (G32.keep Kq103 nin0) Sf31_b2__C103 hnb0 hnb1 hnb2 hnb3 hnb4 hnb5 hnb6 hnb7 hnb8 hnb9 (by decide) (by rw [hwl9]) (Or.inr (Or.inr (Or.inr ⟨rfl, rfl, LSq103, (LSu.step hSq103.1 Kq103)⟩)))
        · skip
          obtain ⟨la, lb, lk, lLi, lfE, lfC, lfV, lfA, -, -⟩ := id LSu
          show Runs p e below _ (T32.setTop (mkF m 169 #[.val (.int p0), .val (.int p1), .val (.int p2), .val (.int p3), .val (.int p4), .val (.int fr), .val (.int tt), .val (.ref b2), .unset, .unset, .unset, .unset, .unset, .unset, .unset, .unset, .unset, .unset, .unset, .unset, .unset, .unset, .unset, .unset] [(.int p2), (.int (10 : Int32)), (.int (fr + (10 : Int32))), (.ref b2)]))
          obtain ⟨_, _, ⟨T105, L105, k105, n105⟩, -, X105, hSq105, hgq105, ⟨Lc105, hQ105, l105, y105, z105, hr105⟩, st105⟩ := callSS X32 hx (y := (⟨"com/example/word_odds/wordodds/filter/VerdictFieldBeginsPinLaw", "nameByte", "(II)B"⟩ : MethodName)) hown (mvT hZ (hw _ (List.mem_of_getElem? (i := 2) rfl))) (mvT hZ (hw _ (List.mem_of_getElem? (i := 3) rfl))) (mvT hZ (hw _ (List.mem_of_getElem? (i := 4) rfl))) (mvT hZ (hw _ (List.mem_of_getElem? (i := 5) rfl))) (by decide) (own_backX (W := 2) (PX := fun vm_ => Lit (Z.setVm vm_) "com/example/word_odds/wordodds/filter/VerdictFieldBeginsPinLaw" 32 la) (rm1_32w l Z a0 hw [] (10 : Int32) p2 gC vG (83 : Int32) (83 : Int32) b2 k2 (own_up wl9 (f + 9) (nar .byte nb9)) la lb lk  h32 n0 (Nat.le_trans Z0 K33.1) (SC.ext O_33.2) cC hvG (SG.ext O_33.2) hbit10 ⟨by decide, by decide⟩ rfl (by decide) (by decide) G32 lfE lfC lfV lfA hEL) hZ (hw _ (List.mem_of_getElem? (i := 5) rfl)) (hw _ (List.mem_of_getElem? (i := 4) rfl)) (by decide) (by decide) hEL hC.1 G32.lt Sf31_b2__K33 (fun _ q => own_lstay (s := s) lLi q)) (g := (mkF m 169 #[.val (.int p0), .val (.int p1), .val (.int p2), .val (.int p3), .val (.int p4), .val (.int fr), .val (.int tt), .val (.ref b2), .unset, .unset, .unset, .unset, .unset, .unset, .unset, .unset, .unset, .unset, .unset, .unset, .unset, .unset, .unset, .unset] [(.int p2), (.int (10 : Int32)), (.int (fr + (10 : Int32))), (.ref b2)])) rfl (by rw [hml]; rfl) (argsL := [(.int (10 : Int32)), (.int p2)]) (rest := [(.int (fr + (10 : Int32))), (.ref b2)]) (lenOf pd_11 rfl) rfl (by show 2 * 0 + _ ≤ _; exact Nat.le_of_eq rfl) (hb hby at_169) (fun _ _ => ⟨rfl, e32, (by decide : 3 + 0 ≤ _), (by decide : 72 + 0 ≤ _)⟩)
          dsimp only [Pt.U, Pt.locs, Pt.cells, Pt.slots] at X105 l105 y105 z105 st105 hQ105
          subst l105 y105 z105
          dsimp only [Pt.U, Pt.locs, Pt.cells, Pt.slots] at hSq105 hgq105 hr105
          obtain ⟨X105, hS, hZ, hown⟩ := rebS hS (by rw [e32]; exact hk) X105 hSq105 hgq105 hZ hown
          have hk := Nat.le_refl T105.heap.size
          have Sf31_b2__C105 := CHr.safe hr105 G32.lt Sf31_b2__K33
          have hC := hC.trans hr105
          obtain ⟨rfl, Nq105, Kq105⟩ := hQ105
          have N105 := Fr.app N32 Nq105
          have K106 : Keep h0 T105.heap [] := Keep.trans (ws := []) K33 Kq105 all0
          have O_106 : Old Z n0 T105.heap := O_33.keep Kq105 all0
          refine Runs.by (fun _ hr => st105.trans hr) ?_
          exact JC10 nb0 nb1 nb2 nb3 nb4 nb5 nb6 nb7 nb8 nb9 (83 : Int32) _ _ (own_up wl9 (f + 9) (nar .byte nb9)) _ _ _ _ _ X105 rfl N105 K106 O_106 hC hS hk hZ hown (G32.keep Kq105 nin0) Sf31_b2__C105 hnb0 hnb1 hnb2 hnb3 hnb4 hnb5 hnb6 hnb7 hnb8 hnb9 (by decide) (by rw [hwl9]) (Or.inr (Or.inr (Or.inl ⟨rfl, rfl, (LSu.step hSq105.1 Kq105)⟩)))
      · skip
        by_cases hbit10 : ((p2 >>> ((10 : Int32) &&& 31)) &&& (1 : Int32)) = (0 : Int32)
        · skip
          obtain ⟨la, lb, lk, lLi, lfE, lfC, lfV, lfA, -, -⟩ := id LSl
          show Runs p e below _ (T32.setTop (mkF m 169 #[.val (.int p0), .val (.int p1), .val (.int p2), .val (.int p3), .val (.int p4), .val (.int fr), .val (.int tt), .val (.ref b2), .unset, .unset, .unset, .unset, .unset, .unset, .unset, .unset, .unset, .unset, .unset, .unset, .unset, .unset, .unset, .unset] [(.int p2), (.int (10 : Int32)), (.int (fr + (10 : Int32))), (.ref b2)]))
          obtain ⟨_, _, ⟨T107, L107, k107, n107⟩, -, X107, hSq107, hgq107, ⟨Lc107, hQ107, l107, y107, z107, hr107⟩, st107⟩ := callSS X32 hx (y := (⟨"com/example/word_odds/wordodds/filter/VerdictFieldBeginsPinLaw", "nameByte", "(II)B"⟩ : MethodName)) hown (mvT hZ (hw _ (List.mem_of_getElem? (i := 2) rfl))) (mvT hZ (hw _ (List.mem_of_getElem? (i := 3) rfl))) (mvT hZ (hw _ (List.mem_of_getElem? (i := 4) rfl))) (mvT hZ (hw _ (List.mem_of_getElem? (i := 5) rfl))) (by decide) (own_backX (W := 2) (PX := fun vm_ => Lit (Z.setVm vm_) "com/example/word_odds/wordodds/filter/VerdictFieldBeginsPinLaw" 24 la) (rm1_24w l Z a0 hw [] (10 : Int32) p2 gC vG (115 : Int32) (115 : Int32) b2 k2 (own_up wl9 (f + 9) (nar .byte nb9)) la lb lk  h32 n0 (Nat.le_trans Z0 K33.1) (SC.ext O_33.2) cC hvG (SG.ext O_33.2) hbit10 ⟨by decide, by decide⟩ rfl (by decide) (by decide) G32 lfE lfC lfV lfA hEL) hZ (hw _ (List.mem_of_getElem? (i := 5) rfl)) (hw _ (List.mem_of_getElem? (i := 4) rfl)) (by decide) (by decide) hEL hC.1 G32.lt Sf31_b2__K33 (fun _ q => own_lstay (s := s) lLi q)) (g := (mkF m 169 #[.val (.int p0), .val (.int p1), .val (.int p2), .val (.int p3), .val (.int p4), .val (.int fr), .val (.int tt), .val (.ref b2), .unset, .unset, .unset, .unset, .unset, .unset, .unset, .unset, .unset, .unset, .unset, .unset, .unset, .unset, .unset, .unset] [(.int p2), (.int (10 : Int32)), (.int (fr + (10 : Int32))), (.ref b2)])) rfl (by rw [hml]; rfl) (argsL := [(.int (10 : Int32)), (.int p2)]) (rest := [(.int (fr + (10 : Int32))), (.ref b2)]) (lenOf pd_11 rfl) rfl (by show 2 * 0 + _ ≤ _; exact Nat.le_of_eq rfl) (hb hby at_169) (fun _ _ => ⟨rfl, e32, (by decide : 5 + 0 ≤ _), (by decide : 120 + 0 ≤ _)⟩)
          dsimp only [Pt.U, Pt.locs, Pt.cells, Pt.slots] at X107 l107 y107 z107 st107 hQ107
          subst l107 y107 z107
          dsimp only [Pt.U, Pt.locs, Pt.cells, Pt.slots] at hSq107 hgq107 hr107
          obtain ⟨X107, hS, hZ, hown⟩ := rebS hS (by rw [e32]; exact hk) X107 hSq107 hgq107 hZ hown
          have hk := Nat.le_refl T107.heap.size
          have Sf31_b2__C107 := CHr.safe hr107 G32.lt Sf31_b2__K33
          have hC := hC.trans hr107
          obtain ⟨rfl, Nq107, Kq107⟩ := hQ107
          have N107 := Fr.app N32 Nq107
          have K108 : Keep h0 T107.heap [] := Keep.trans (ws := []) K33 Kq107 all0
          have O_108 : Old Z n0 T107.heap := O_33.keep Kq107 all0
          refine Runs.by (fun _ hr => st107.trans hr) ?_
          exact JC10 nb0 nb1 nb2 nb3 nb4 nb5 nb6 nb7 nb8 nb9 (115 : Int32) _ _ (own_up wl9 (f + 9) (nar .byte nb9)) _ _ _ _ _ X107 rfl N107 K108 O_108 hC hS hk hZ hown (G32.keep Kq107 nin0) Sf31_b2__C107 hnb0 hnb1 hnb2 hnb3 hnb4 hnb5 hnb6 hnb7 hnb8 hnb9 (by decide) (by rw [hwl9]) (Or.inr (Or.inr (Or.inr ⟨rfl, rfl, (LSl.step hSq107.1 Kq107), (LSu.step hSq107.1 Kq107)⟩)))
        · skip
          obtain ⟨la, lb, lk, lLi, lfE, lfC, lfV, lfA, -, -⟩ := id LSu
          show Runs p e below _ (T32.setTop (mkF m 169 #[.val (.int p0), .val (.int p1), .val (.int p2), .val (.int p3), .val (.int p4), .val (.int fr), .val (.int tt), .val (.ref b2), .unset, .unset, .unset, .unset, .unset, .unset, .unset, .unset, .unset, .unset, .unset, .unset, .unset, .unset, .unset, .unset] [(.int p2), (.int (10 : Int32)), (.int (fr + (10 : Int32))), (.ref b2)]))
          obtain ⟨_, _, ⟨T109, L109, k109, n109⟩, -, X109, hSq109, hgq109, ⟨Lc109, hQ109, l109, y109, z109, hr109⟩, st109⟩ := callSS X32 hx (y := (⟨"com/example/word_odds/wordodds/filter/VerdictFieldBeginsPinLaw", "nameByte", "(II)B"⟩ : MethodName)) hown (mvT hZ (hw _ (List.mem_of_getElem? (i := 2) rfl))) (mvT hZ (hw _ (List.mem_of_getElem? (i := 3) rfl))) (mvT hZ (hw _ (List.mem_of_getElem? (i := 4) rfl))) (mvT hZ (hw _ (List.mem_of_getElem? (i := 5) rfl))) (by decide) (own_backX (W := 2) (PX := fun vm_ => Lit (Z.setVm vm_) "com/example/word_odds/wordodds/filter/VerdictFieldBeginsPinLaw" 32 la) (rm1_32w l Z a0 hw [] (10 : Int32) p2 gC vG (83 : Int32) (83 : Int32) b2 k2 (own_up wl9 (f + 9) (nar .byte nb9)) la lb lk  h32 n0 (Nat.le_trans Z0 K33.1) (SC.ext O_33.2) cC hvG (SG.ext O_33.2) hbit10 ⟨by decide, by decide⟩ rfl (by decide) (by decide) G32 lfE lfC lfV lfA hEL) hZ (hw _ (List.mem_of_getElem? (i := 5) rfl)) (hw _ (List.mem_of_getElem? (i := 4) rfl)) (by decide) (by decide) hEL hC.1 G32.lt Sf31_b2__K33 (fun _ q => own_lstay (s := s) lLi q)) (g := (mkF m 169 #[.val (.int p0), .val (.int p1), .val (.int p2), .val (.int p3), .val (.int p4), .val (.int fr), .val (.int tt), .val (.ref b2), .unset, .unset, .unset, .unset, .unset, .unset, .unset, .unset, .unset, .unset, .unset, .unset, .unset, .unset, .unset, .unset] [(.int p2), (.int (10 : Int32)), (.int (fr + (10 : Int32))), (.ref b2)])) rfl (by rw [hml]; rfl) (argsL := [(.int (10 : Int32)), (.int p2)]) (rest := [(.int (fr + (10 : Int32))), (.ref b2)]) (lenOf pd_11 rfl) rfl (by show 2 * 0 + _ ≤ _; exact Nat.le_of_eq rfl) (hb hby at_169) (fun _ _ => ⟨rfl, e32, (by decide : 5 + 0 ≤ _), (by decide : 120 + 0 ≤ _)⟩)
          dsimp only [Pt.U, Pt.locs, Pt.cells, Pt.slots] at X109 l109 y109 z109 st109 hQ109
          subst l109 y109 z109
          dsimp only [Pt.U, Pt.locs, Pt.cells, Pt.slots] at hSq109 hgq109 hr109
          obtain ⟨X109, hS, hZ, hown⟩ := rebS hS (by rw [e32]; exact hk) X109 hSq109 hgq109 hZ hown
          have hk := Nat.le_refl T109.heap.size
          have Sf31_b2__C109 := CHr.safe hr109 G32.lt Sf31_b2__K33
          have hC := hC.trans hr109
          obtain ⟨rfl, Nq109, Kq109⟩ := hQ109
          have N109 := Fr.app N32 Nq109
          have K110 : Keep h0 T109.heap [] := Keep.trans (ws := []) K33 Kq109 all0
          have O_110 : Old Z n0 T109.heap := O_33.keep Kq109 all0
          refine Runs.by (fun _ hr => st109.trans hr) ?_
          exact JC10 nb0 nb1 nb2 nb3 nb4 nb5 nb6 nb7 nb8 nb9 (83 : Int32) _ _ (own_up wl9 (f + 9) (nar .byte nb9)) _ _ _ _ _ X109 rfl N109 K110 O_110 hC hS hk hZ hown (G32.keep Kq109 nin0) Sf31_b2__C109 hnb0 hnb1 hnb2 hnb3 hnb4 hnb5 hnb6 hnb7 hnb8 hnb9 (by decide) (by rw [hwl9]) (Or.inr (Or.inr (Or.inr ⟨rfl, rfl, (LSl.step hSq109.1 Kq109), (LSu.step hSq109.1 Kq109)⟩)))
    have JC8 : ∀ (nb0 nb1 nb2 nb3 nb4 nb5 nb6 nb7 nb8 : Int32) (cJ8 sJ8 : Nat) (wl8 : Nat → Int32) (TJ28 : State) (hJ28 : Heap) (lJ28 : List Loc) (vJ28 : Vm) (kJ28 : Nat) (XJ28 : Stand p l e room_1 (s.setVm vJ28) m #[(.int p0), (.int p1), (.int p2), (.int p3), (.int p4)] below meth c TJ28 lJ28 cJ8 sJ8) (eJ28 : TJ28.heap = hJ28) (NJ28 : Fr n0 lJ28) (KJ28 : Keep h0 hJ28 []) (OJ28 : Old Z n0 hJ28) (hCJ28 : CHr Z consts_1 s.vm s.heap vJ28 hJ28) (hSJ28 : s.Since vJ28 kJ28) (hkJ28 : kJ28 ≤ hJ28.size) (hZJ28 : Z.Warmed39 vJ28) (hoJ28 : vJ28.findClass "com/example/word_odds/wordodds/filter/VerdictFieldBeginsPinLaw" = some m.cls) (fJ28_0 : Arf Z hJ28 b2 k2 .byte (24 : Int32) (fun j_ => .int (wl8 j_))) (Sf28_b2 : Safe Z consts_1 vJ28 hJ28 b2) (hnb0 : own_lc (nar .byte nb0) = (120 : Int32)) (hnb1 : own_lc (nar .byte nb1) = (45 : Int32)) (hnb2 : own_lc (nar .byte nb2) = (119 : Int32)) (hnb3 : own_lc (nar .byte nb3) = (111 : Int32)) (hnb4 : own_lc (nar .byte nb4) = (114 : Int32)) (hnb5 : own_lc (nar .byte nb5) = (100 : Int32)) (hnb6 : own_lc (nar .byte nb6) = (45 : Int32)) (hnb7 : own_lc (nar .byte nb7) = (111 : Int32)) (hnb8 : own_lc (nar .byte nb8) = (100 : Int32)) (hwl8 : wl8 = (own_up (own_up (own_up (own_up (own_up (own_up (own_up (own_up (fun _ => (0 : Int32)) (f + 0) (nar .byte nb0)) (f + 1) (nar .byte nb1)) (f + 2) (nar .byte nb2)) (f + 3) (nar .byte nb3)) (f + 4) (nar .byte nb4)) (f + 5) (nar .byte nb5)) (f + 6) (nar .byte nb6)) (f + 7) (nar .byte nb7))) (inv : own_inv Z vJ28 hJ28 b2 cJ8 sJ8), Runs p e below (QEW Z consts_1 s (Q_rm0 Z p0 p1 p2 p3 p4 gC vG lo ko h0 n0) room_1.cells room_1.slots) (TJ28.setTop (mkF m 144 #[.val (.int p0), .val (.int p1), .val (.int p2), .val (.int p3), .val (.int p4), .val (.int fr), .val (.int tt), .val (.ref b2), .unset, .unset, .unset, .unset, .unset, .unset, .unset, .unset, .unset, .unset, .unset, .unset, .unset, .unset, .unset, .unset] [(.int nb8), (.int (fr + (8 : Int32))), (.ref b2)])) := by
      intro nb0 nb1 nb2 nb3 nb4 nb5 nb6 nb7 nb8 cJ8 sJ8 wl8 TJ28 hJ28 lJ28 vJ28 kJ28 XJ28 eJ28 NJ28 KJ28 OJ28 hC hS hk hZ hown fJ28_0 Sf28_b2 hnb0 hnb1 hnb2 hnb3 hnb4 hnb5 hnb6 hnb7 hnb8 hwl8 inv
      clear JC10
      show Runs p e below _ (TJ28.setTop (mkF m 144 #[.val (.int p0), .val (.int p1), .val (.int p2), .val (.int p3), .val (.int p4), .val (.int fr), .val (.int tt), .val (.ref b2), .unset, .unset, .unset, .unset, .unset, .unset, .unset, .unset, .unset, .unset, .unset, .unset, .unset, .unset, .unset, .unset] [(.int nb8), (.int (fr + (8 : Int32))), (.ref b2)]))
      obtain ⟨cl29, Ar29, q29, S29, N29', H29⟩ := id fJ28_0
      have ix29 := own_ix (j := (fr + (8 : Int32))) (z := (24 : Int32)) (n := f + 8) (own_ad hf h3 (n := 8) (by decide) (by decide)) (own_ad24 hf h3 (n := 8) (by decide) (by decide))
      have hin29 : ¬ ((fr + (8 : Int32)) < 0 ∨ cl29.slots.size ≤ ((fr + (8 : Int32))).toNatClampNeg) := inb_of S29 ix29.1
      obtain ⟨T29, h29, X29, e29, W29, st29⟩ := stB XJ28 hx hZ eJ28 Ar29 (j := (fr + (8 : Int32))) hin29 (g := (mkF m 144 #[.val (.int p0), .val (.int p1), .val (.int p2), .val (.int p3), .val (.int p4), .val (.int fr), .val (.int tt), .val (.ref b2), .unset, .unset, .unset, .unset, .unset, .unset, .unset, .unset, .unset, .unset, .unset, .unset, .unset, .unset, .unset, .unset] [(.int nb8), (.int (fr + (8 : Int32))), (.ref b2)])) rfl rfl (hb hby at_144)
      have G29 : Arf Z h29 b2 k2 .byte (24 : Int32) (fun j_ => .int ((own_up wl8 (f + 8) (nar .byte nb8)) j_)) := (Arf.set Ar29 q29 S29 N29' H29 W29 ix29.2.1).cast (fun j_ _ => own_up_map Value.int _ _ _ j_)
      have K30 : Keep h0 h29 [] := KJ28.wr W29 (Or.inr sz_b2)
      have O_30 : Old Z n0 h29 := OJ28.wr W29 g_b2
      have Sf28_b2__K30 := Safe.wr W29 Sf28_b2 hC.1 Sf28_b2
      have hk : _ ≤ h29.size := Nat.le_trans hk (Keep.of_wr W29).1
      have hC := hC.trans (CHr.wr W29 Sf28_b2 hC.1)
      have inv := inv.wr W29
      have N29 := Fr.snoc X29 NJ28 g_b2
      refine Runs.by st29 ?_
      refine Runs.by (fun _ hr => XS.aload X29.here hx rfl (hb hby at_145) rfl rfl hr) ?_
      refine Runs.by (fun _ hr => XS.iload X29.here hx rfl (hb hby at_147) rfl  hr) ?_
      show Runs p e below _ (T29.setTop (mkF m 149 #[.val (.int p0), .val (.int p1), .val (.int p2), .val (.int p3), .val (.int p4), .val (.int fr), .val (.int tt), .val (.ref b2), .unset, .unset, .unset, .unset, .unset, .unset, .unset, .unset, .unset, .unset, .unset, .unset, .unset, .unset, .unset, .unset] [(.int fr), (.ref b2)]))
      refine Runs.by (fun _ hr => XS.bipush X29.here hx rfl (hb hby at_149) hr) ?_
      refine Runs.by (fun _ hr => XS.iadd X29.here hx rfl (hb hby at_151) rfl hr) ?_
      refine Runs.by (fun _ hr => XS.bipush X29.here hx rfl (hb hby at_152) hr) ?_
      show Runs p e below _ (T29.setTop (mkF m 154 #[.val (.int p0), .val (.int p1), .val (.int p2), .val (.int p3), .val (.int p4), .val (.int fr), .val (.int tt), .val (.ref b2), .unset, .unset, .unset, .unset, .unset, .unset, .unset, .unset, .unset, .unset, .unset, .unset, .unset, .unset, .unset, .unset] [(.int (9 : Int32)), (.int (fr + (9 : Int32))), (.ref b2)]))
      refine Runs.by (fun _ hr => XS.iloadN X29.here hx rfl (hb hby at_154) rfl  hr) ?_
      rcases inv with ⟨rfl, rfl⟩ | ⟨rfl, rfl, LSl⟩ | ⟨rfl, rfl, LSu⟩ | ⟨rfl, rfl, LSl, LSu⟩
      · skip
        by_cases hbit9 : ((p2 >>> ((9 : Int32) &&& 31)) &&& (1 : Int32)) = (0 : Int32)
        · skip
          show Runs p e below _ (T29.setTop (mkF m 155 #[.val (.int p0), .val (.int p1), .val (.int p2), .val (.int p3), .val (.int p4), .val (.int fr), .val (.int tt), .val (.ref b2), .unset, .unset, .unset, .unset, .unset, .unset, .unset, .unset, .unset, .unset, .unset, .unset, .unset, .unset, .unset, .unset] [(.int p2), (.int (9 : Int32)), (.int (fr + (9 : Int32))), (.ref b2)]))
          obtain ⟨_, _, ⟨T111, L111, k111, n111⟩, -, X111, hSq111, hgq111, ⟨Lc111, hQ111, l111, y111, z111, hr111⟩, st111⟩ := callSS X29 hx (y := (⟨"com/example/word_odds/wordodds/filter/VerdictFieldBeginsPinLaw", "nameByte", "(II)B"⟩ : MethodName)) hown (mvT hZ (hw _ (List.mem_of_getElem? (i := 2) rfl))) (mvT hZ (hw _ (List.mem_of_getElem? (i := 3) rfl))) (mvT hZ (hw _ (List.mem_of_getElem? (i := 4) rfl))) (mvT hZ (hw _ (List.mem_of_getElem? (i := 5) rfl))) (by decide) (own_backX (W := 2) (PX := fun _ => True) (rm1_24c l Z a0 hw [] (9 : Int32) p2 gC vG (100 : Int32) (100 : Int32) b2 k2 (own_up wl8 (f + 8) (nar .byte nb8))  h29 n0 (Nat.le_trans Z0 K30.1) (SC.ext O_30.2) cC hvG (SG.ext O_30.2) hbit9 ⟨by decide, by decide⟩ rfl (by decide) (by decide) G29 hEL) hZ (hw _ (List.mem_of_getElem? (i := 5) rfl)) (hw _ (List.mem_of_getElem? (i := 4) rfl)) (by decide) (by decide) hEL hC.1 G29.lt Sf28_b2__K30 (fun _ _ => trivial)) (g := (mkF m 155 #[.val (.int p0), .val (.int p1), .val (.int p2), .val (.int p3), .val (.int p4), .val (.int fr), .val (.int tt), .val (.ref b2), .unset, .unset, .unset, .unset, .unset, .unset, .unset, .unset, .unset, .unset, .unset, .unset, .unset, .unset, .unset, .unset] [(.int p2), (.int (9 : Int32)), (.int (fr + (9 : Int32))), (.ref b2)])) rfl (by rw [hml]; rfl) (argsL := [(.int (9 : Int32)), (.int p2)]) (rest := [(.int (fr + (9 : Int32))), (.ref b2)]) (lenOf pd_11 rfl) rfl (by show 2 * 0 + _ ≤ _; exact Nat.le_of_eq rfl) (hb hby at_155) (fun _ _ => ⟨rfl, e29, (by decide : 1 + 2 ≤ _), (by decide : 24 + 48 ≤ _)⟩)
          dsimp only [Pt.U, Pt.locs, Pt.cells, Pt.slots] at X111 l111 y111 z111 st111 hQ111
          subst l111 y111 z111
          dsimp only [Pt.U, Pt.locs, Pt.cells, Pt.slots] at hSq111 hgq111 hr111
          obtain ⟨X111, hS, hZ, hown⟩ := rebS hS (by rw [e29]; exact hk) X111 hSq111 hgq111 hZ hown
          have hk := Nat.le_refl T111.heap.size
          have Sf28_b2__C111 := CHr.safe hr111 G29.lt Sf28_b2__K30
          have hC := hC.trans hr111
          obtain ⟨rfl, Nq111, Kq111, LSq111⟩ := hQ111
          have N111 := Fr.app N29 Nq111
          have K112 : Keep h0 T111.heap [] := Keep.trans (ws := []) K30 Kq111 all0
          have O_112 : Old Z n0 T111.heap := O_30.keep Kq111 all0
          refine Runs.by (fun _ hr => st111.trans hr) ?_
          exact JC9 nb0 nb1 nb2 nb3 nb4 nb5 nb6 nb7 nb8 (100 : Int32) _ _ (own_up wl8 (f + 8) (nar .byte nb8)) _ _ _ _ _ X111 rfl N111 K112 O_112 hC hS hk hZ hown (G29.keep Kq111 nin0) Sf28_b2__C111 hnb0 hnb1 hnb2 hnb3 hnb4 hnb5 hnb6 hnb7 hnb8 (by decide) (by rw [hwl8]) (Or.inr (Or.inl ⟨rfl, rfl, LSq111⟩))
        · skip
          show Runs p e below _ (T29.setTop (mkF m 155 #[.val (.int p0), .val (.int p1), .val (.int p2), .val (.int p3), .val (.int p4), .val (.int fr), .val (.int tt), .val (.ref b2), .unset, .unset, .unset, .unset, .unset, .unset, .unset, .unset, .unset, .unset, .unset, .unset, .unset, .unset, .unset, .unset] [(.int p2), (.int (9 : Int32)), (.int (fr + (9 : Int32))), (.ref b2)]))
          obtain ⟨_, _, ⟨T113, L113, k113, n113⟩, -, X113, hSq113, hgq113, ⟨Lc113, hQ113, l113, y113, z113, hr113⟩, st113⟩ := callSS X29 hx (y := (⟨"com/example/word_odds/wordodds/filter/VerdictFieldBeginsPinLaw", "nameByte", "(II)B"⟩ : MethodName)) hown (mvT hZ (hw _ (List.mem_of_getElem? (i := 2) rfl))) (mvT hZ (hw _ (List.mem_of_getElem? (i := 3) rfl))) (mvT hZ (hw _ (List.mem_of_getElem? (i := 4) rfl))) (mvT hZ (hw _ (List.mem_of_getElem? (i := 5) rfl))) (by decide) (own_backX (W := 2) (PX := fun _ => True) (rm1_32c l Z a0 hw [] (9 : Int32) p2 gC vG (68 : Int32) (68 : Int32) b2 k2 (own_up wl8 (f + 8) (nar .byte nb8))  h29 n0 (Nat.le_trans Z0 K30.1) (SC.ext O_30.2) cC hvG (SG.ext O_30.2) hbit9 ⟨by decide, by decide⟩ rfl (by decide) (by decide) G29 hEL) hZ (hw _ (List.mem_of_getElem? (i := 5) rfl)) (hw _ (List.mem_of_getElem? (i := 4) rfl)) (by decide) (by decide) hEL hC.1 G29.lt Sf28_b2__K30 (fun _ _ => trivial)) (g := (mkF m 155 #[.val (.int p0), .val (.int p1), .val (.int p2), .val (.int p3), .val (.int p4), .val (.int fr), .val (.int tt), .val (.ref b2), .unset, .unset, .unset, .unset, .unset, .unset, .unset, .unset, .unset, .unset, .unset, .unset, .unset, .unset, .unset, .unset] [(.int p2), (.int (9 : Int32)), (.int (fr + (9 : Int32))), (.ref b2)])) rfl (by rw [hml]; rfl) (argsL := [(.int (9 : Int32)), (.int p2)]) (rest := [(.int (fr + (9 : Int32))), (.ref b2)]) (lenOf pd_11 rfl) rfl (by show 2 * 0 + _ ≤ _; exact Nat.le_of_eq rfl) (hb hby at_155) (fun _ _ => ⟨rfl, e29, (by decide : 1 + 2 ≤ _), (by decide : 24 + 48 ≤ _)⟩)
          dsimp only [Pt.U, Pt.locs, Pt.cells, Pt.slots] at X113 l113 y113 z113 st113 hQ113
          subst l113 y113 z113
          dsimp only [Pt.U, Pt.locs, Pt.cells, Pt.slots] at hSq113 hgq113 hr113
          obtain ⟨X113, hS, hZ, hown⟩ := rebS hS (by rw [e29]; exact hk) X113 hSq113 hgq113 hZ hown
          have hk := Nat.le_refl T113.heap.size
          have Sf28_b2__C113 := CHr.safe hr113 G29.lt Sf28_b2__K30
          have hC := hC.trans hr113
          obtain ⟨rfl, Nq113, Kq113, LSq113⟩ := hQ113
          have N113 := Fr.app N29 Nq113
          have K114 : Keep h0 T113.heap [] := Keep.trans (ws := []) K30 Kq113 all0
          have O_114 : Old Z n0 T113.heap := O_30.keep Kq113 all0
          refine Runs.by (fun _ hr => st113.trans hr) ?_
          exact JC9 nb0 nb1 nb2 nb3 nb4 nb5 nb6 nb7 nb8 (68 : Int32) _ _ (own_up wl8 (f + 8) (nar .byte nb8)) _ _ _ _ _ X113 rfl N113 K114 O_114 hC hS hk hZ hown (G29.keep Kq113 nin0) Sf28_b2__C113 hnb0 hnb1 hnb2 hnb3 hnb4 hnb5 hnb6 hnb7 hnb8 (by decide) (by rw [hwl8]) (Or.inr (Or.inr (Or.inl ⟨rfl, rfl, LSq113⟩)))
      · skip
        by_cases hbit9 : ((p2 >>> ((9 : Int32) &&& 31)) &&& (1 : Int32)) = (0 : Int32)
        · skip
          obtain ⟨la, lb, lk, lLi, lfE, lfC, lfV, lfA, -, -⟩ := id LSl
          show Runs p e below _ (T29.setTop (mkF m 155 #[.val (.int p0), .val (.int p1), .val (.int p2), .val (.int p3), .val (.int p4), .val (.int fr), .val (.int tt), .val (.ref b2), .unset, .unset, .unset, .unset, .unset, .unset, .unset, .unset, .unset, .unset, .unset, .unset, .unset, .unset, .unset, .unset] [(.int p2), (.int (9 : Int32)), (.int (fr + (9 : Int32))), (.ref b2)]))
          obtain ⟨_, _, ⟨T115, L115, k115, n115⟩, -, X115, hSq115, hgq115, ⟨Lc115, hQ115, l115, y115, z115, hr115⟩, st115⟩ := callSS X29 hx (y := (⟨"com/example/word_odds/wordodds/filter/VerdictFieldBeginsPinLaw", "nameByte", "(II)B"⟩ : MethodName)) hown (mvT hZ (hw _ (List.mem_of_getElem? (i := 2) rfl))) (mvT hZ (hw _ (List.mem_of_getElem? (i := 3) rfl))) (mvT hZ (hw _ (List.mem_of_getElem? (i := 4) rfl))) (mvT hZ (hw _ (List.mem_of_getElem? (i := 5) rfl))) (by decide) (own_backX (W := 2) (PX := fun vm_ => Lit (Z.setVm vm_) "com/example/word_odds/wordodds/filter/VerdictFieldBeginsPinLaw" 24 la) (rm1_24w l Z a0 hw [] (9 : Int32) p2 gC vG (100 : Int32) (100 : Int32) b2 k2 (own_up wl8 (f + 8) (nar .byte nb8)) la lb lk  h29 n0 (Nat.le_trans Z0 K30.1) (SC.ext O_30.2) cC hvG (SG.ext O_30.2) hbit9 ⟨by decide, by decide⟩ rfl (by decide) (by decide) G29 lfE lfC lfV lfA hEL) hZ (hw _ (List.mem_of_getElem? (i := 5) rfl)) (hw _ (List.mem_of_getElem? (i := 4) rfl)) (by decide) (by decide) hEL hC.1 G29.lt Sf28_b2__K30 (fun _ q => own_lstay (s := s) lLi q)) (g := (mkF m 155 #[.val (.int p0), .val (.int p1), .val (.int p2), .val (.int p3), .val (.int p4), .val (.int fr), .val (.int tt), .val (.ref b2), .unset, .unset, .unset, .unset, .unset, .unset, .unset, .unset, .unset, .unset, .unset, .unset, .unset, .unset, .unset, .unset] [(.int p2), (.int (9 : Int32)), (.int (fr + (9 : Int32))), (.ref b2)])) rfl (by rw [hml]; rfl) (argsL := [(.int (9 : Int32)), (.int p2)]) (rest := [(.int (fr + (9 : Int32))), (.ref b2)]) (lenOf pd_11 rfl) rfl (by show 2 * 0 + _ ≤ _; exact Nat.le_of_eq rfl) (hb hby at_155) (fun _ _ => ⟨rfl, e29, (by decide : 3 + 0 ≤ _), (by decide : 72 + 0 ≤ _)⟩)
          dsimp only [Pt.U, Pt.locs, Pt.cells, Pt.slots] at X115 l115 y115 z115 st115 hQ115
          subst l115 y115 z115
          dsimp only [Pt.U, Pt.locs, Pt.cells, Pt.slots] at hSq115 hgq115 hr115
          obtain ⟨X115, hS, hZ, hown⟩ := rebS hS (by rw [e29]; exact hk) X115 hSq115 hgq115 hZ hown
          have hk := Nat.le_refl T115.heap.size
          have Sf28_b2__C115 := CHr.safe hr115 G29.lt Sf28_b2__K30
          have hC := hC.trans hr115
          obtain ⟨rfl, Nq115, Kq115⟩ := hQ115
          have N115 := Fr.app N29 Nq115
          have K116 : Keep h0 T115.heap [] := Keep.trans (ws := []) K30 Kq115 all0
          have O_116 : Old Z n0 T115.heap := O_30.keep Kq115 all0
          refine Runs.by (fun _ hr => st115.trans hr) ?_
          exact JC9 nb0 nb1 nb2 nb3 nb4 nb5 nb6 nb7 nb8 (100 : Int32) _ _ (own_up wl8 (f + 8) (nar .byte nb8)) _ _ _ _ _ X115 rfl N115 K116 O_116 hC hS hk hZ hown (G29.keep Kq115 nin0) Sf28_b2__C115 hnb0 hnb1 hnb2 hnb3 hnb4 hnb5 hnb6 hnb7 hnb8 (by decide) (by rw [hwl8]) (Or.inr (Or.inl ⟨rfl, rfl, (LSl.step hSq115.1 Kq115)⟩))
        · skip
          show Runs p e below _ (T29.setTop (mkF m 155 #[.val (.int p0), .val (.int p1), .val (.int p2), .val (.int p3), .val (.int p4), .val (.int fr), .val (.int tt), .val (.ref b2), .unset, .unset, .unset, .unset, .unset, .unset, .unset, .unset, .unset, .unset, .unset, .unset, .unset, .unset, .unset, .unset] [(.int p2), (.int (9 : Int32)), (.int (fr + (9 : Int32))), (.ref b2)]))
          obtain ⟨_, _, ⟨T117, L117, k117, n117⟩, -, X117, hSq117, hgq117, ⟨Lc117, hQ117, l117, y117, z117, hr117⟩, st117⟩ := callSS X29 hx (y := (⟨"com/example/word_odds/wordodds/filter/VerdictFieldBeginsPinLaw", "nameByte", "(II)B"⟩ : MethodName)) hown (mvT hZ (hw _ (List.mem_of_getElem? (i := 2) rfl))) (mvT hZ (hw _ (List.mem_of_getElem? (i := 3) rfl))) (mvT hZ (hw _ (List.mem_of_getElem? (i := 4) rfl))) (mvT hZ (hw _ (List.mem_of_getElem? (i := 5) rfl))) (by decide) (own_backX (W := 2) (PX := fun _ => True) (rm1_32c l Z a0 hw [] (9 : Int32) p2 gC vG (68 : Int32) (68 : Int32) b2 k2 (own_up wl8 (f + 8) (nar .byte nb8))  h29 n0 (Nat.le_trans Z0 K30.1) (SC.ext O_30.2) cC hvG (SG.ext O_30.2) hbit9 ⟨by decide, by decide⟩ rfl (by decide) (by decide) G29 hEL) hZ (hw _ (List.mem_of_getElem? (i := 5) rfl)) (hw _ (List.mem_of_getElem? (i := 4) rfl)) (by decide) (by decide) hEL hC.1 G29.lt Sf28_b2__K30 (fun _ _ => trivial)) (g := (mkF m 155 #[.val (.int p0), .val (.int p1), .val (.int p2), .val (.int p3), .val (.int p4), .val (.int fr), .val (.int tt), .val (.ref b2), .unset, .unset, .unset, .unset, .unset, .unset, .unset, .unset, .unset, .unset, .unset, .unset, .unset, .unset, .unset, .unset] [(.int p2), (.int (9 : Int32)), (.int (fr + (9 : Int32))), (.ref b2)])) rfl (by rw [hml]; rfl) (argsL := [(.int (9 : Int32)), (.int p2)]) (rest := [(.int (fr + (9 : Int32))), (.ref b2)]) (lenOf pd_11 rfl) rfl (by show 2 * 0 + _ ≤ _; exact Nat.le_of_eq rfl) (hb hby at_155) (fun _ _ => ⟨rfl, e29, (by decide : 3 + 2 ≤ _), (by decide : 72 + 48 ≤ _)⟩)
          dsimp only [Pt.U, Pt.locs, Pt.cells, Pt.slots] at X117 l117 y117 z117 st117 hQ117
          subst l117 y117 z117
          dsimp only [Pt.U, Pt.locs, Pt.cells, Pt.slots] at hSq117 hgq117 hr117
          obtain ⟨X117, hS, hZ, hown⟩ := rebS hS (by rw [e29]; exact hk) X117 hSq117 hgq117 hZ hown
          have hk := Nat.le_refl T117.heap.size
          have Sf28_b2__C117 := CHr.safe hr117 G29.lt Sf28_b2__K30
          have hC := hC.trans hr117
          obtain ⟨rfl, Nq117, Kq117, LSq117⟩ := hQ117
          have N117 := Fr.app N29 Nq117
          have K118 : Keep h0 T117.heap [] := Keep.trans (ws := []) K30 Kq117 all0
          have O_118 : Old Z n0 T117.heap := O_30.keep Kq117 all0
          refine Runs.by (fun _ hr => st117.trans hr) ?_
          exact JC9 nb0 nb1 nb2 nb3 nb4 nb5 nb6 nb7 nb8 (68 : Int32) _ _ (own_up wl8 (f + 8) (nar .byte nb8)) _ _ _ _ _ X117 rfl N117 K118 O_118 hC hS hk hZ hown (G29.keep Kq117 nin0) Sf28_b2__C117 hnb0 hnb1 hnb2 hnb3 hnb4 hnb5 hnb6 hnb7 hnb8 (by decide) (by rw [hwl8]) (Or.inr (Or.inr (Or.inr ⟨rfl, rfl, (LSl.step hSq117.1 Kq117), LSq117⟩)))
      · skip
        by_cases hbit9 : ((p2 >>> ((9 : Int32) &&& 31)) &&& (1 : Int32)) = (0 : Int32)
        · skip
          show Runs p e below _ (T29.setTop (mkF m 155 #[.val (.int p0), .val (.int p1), .val (.int p2), .val (.int p3), .val (.int p4), .val (.int fr), .val (.int tt), .val (.ref b2), .unset, .unset, .unset, .unset, .unset, .unset, .unset, .unset, .unset, .unset, .unset, .unset, .unset, .unset, .unset, .unset] [(.int p2), (.int (9 : Int32)), (.int (fr + (9 : Int32))), (.ref b2)]))
          obtain ⟨_, _, ⟨T119, L119, k119, n119⟩, -, X119, hSq119, hgq119, ⟨Lc119, hQ119, l119, y119, z119, hr119⟩, st119⟩ := callSS X29 hx (y := (⟨"com/example/word_odds/wordodds/filter/VerdictFieldBeginsPinLaw", "nameByte", "(II)B"⟩ : MethodName)) hown (mvT hZ (hw _ (List.mem_of_getElem? (i := 2) rfl))) (mvT hZ (hw _ (List.mem_of_getElem? (i := 3) rfl))) (mvT hZ (hw _ (List.mem_of_getElem? (i := 4) rfl))) (mvT hZ (hw _ (List.mem_of_getElem? (i := 5) rfl))) (by decide) (own_backX (W := 2) (PX := fun _ => True) (rm1_24c l Z a0 hw [] (9 : Int32) p2 gC vG (100 : Int32) (100 : Int32) b2 k2 (own_up wl8 (f + 8) (nar .byte nb8))  h29 n0 (Nat.le_trans Z0 K30.1) (SC.ext O_30.2) cC hvG (SG.ext O_30.2) hbit9 ⟨by decide, by decide⟩ rfl (by decide) (by decide) G29 hEL) hZ (hw _ (List.mem_of_getElem? (i := 5) rfl)) (hw _ (List.mem_of_getElem? (i := 4) rfl)) (by decide) (by decide) hEL hC.1 G29.lt Sf28_b2__K30 (fun _ _ => trivial)) (g := (mkF m 155 #[.val (.int p0), .val (.int p1), .val (.int p2), .val (.int p3), .val (.int p4), .val (.int fr), .val (.int tt), .val (.ref b2), .unset, .unset, .unset, .unset, .unset, .unset, .unset, .unset, .unset, .unset, .unset, .unset, .unset, .unset, .unset, .unset] [(.int p2), (.int (9 : Int32)), (.int (fr + (9 : Int32))), (.ref b2)])) rfl (by rw [hml]; rfl) (argsL := [(.int (9 : Int32)), (.int p2)]) (rest := [(.int (fr + (9 : Int32))), (.ref b2)]) (lenOf pd_11 rfl) rfl (by show 2 * 0 + _ ≤ _; exact Nat.le_of_eq rfl) (hb hby at_155) (fun _ _ => ⟨rfl, e29, (by decide : 3 + 2 ≤ _), (by decide : 72 + 48 ≤ _)⟩)
          dsimp only [Pt.U, Pt.locs, Pt.cells, Pt.slots] at X119 l119 y119 z119 st119 hQ119
          subst l119 y119 z119
          dsimp only [Pt.U, Pt.locs, Pt.cells, Pt.slots] at hSq119 hgq119 hr119
          obtain ⟨X119, hS, hZ, hown⟩ := rebS hS (by rw [e29]; exact hk) X119 hSq119 hgq119 hZ hown
          have hk := Nat.le_refl T119.heap.size
          have Sf28_b2__C119 := CHr.safe hr119 G29.lt Sf28_b2__K30
          have hC := hC.trans hr119
          obtain ⟨rfl, Nq119, Kq119, LSq119⟩ := hQ119
          have N119 := Fr.app N29 Nq119
          have K120 : Keep h0 T119.heap [] := Keep.trans (ws := []) K30 Kq119 all0
          have O_120 : Old Z n0 T119.heap := O_30.keep Kq119 all0
          refine Runs.by (fun _ hr => st119.trans hr) ?_
          exact JC9 nb0 nb1 nb2 nb3 nb4 nb5 nb6 nb7 nb8 (100 : Int32) _ _ (own_up wl8 (f + 8) (nar .byte nb8)) _ _ _ _ _ X119 rfl N119 K120 O_120 hC hS hk hZ hown (G29.keep Kq119 nin0) Sf28_b2__C119 hnb0 hnb1 hnb2 hnb3 hnb4 hnb5 hnb6 hnb7 hnb8 (by decide) (by rw [hwl8]) (Or.inr (Or.inr (Or.inr ⟨rfl, rfl, LSq119, (LSu.step hSq119.1 Kq119)⟩)))
        · skip
          obtain ⟨la, lb, lk, lLi, lfE, lfC, lfV, lfA, -, -⟩ := id LSu
          show Runs p e below _ (T29.setTop (mkF m 155 #[.val (.int p0), .val (.int p1), .val (.int p2), .val (.int p3), .val (.int p4), .val (.int fr), .val (.int tt), .val (.ref b2), .unset, .unset, .unset, .unset, .unset, .unset, .unset, .unset, .unset, .unset, .unset, .unset, .unset, .unset, .unset, .unset] [(.int p2), (.int (9 : Int32)), (.int (fr + (9 : Int32))), (.ref b2)]))
          obtain ⟨_, _, ⟨T121, L121, k121, n121⟩, -, X121, hSq121, hgq121, ⟨Lc121, hQ121, l121, y121, z121, hr121⟩, st121⟩ := callSS X29 hx (y := (⟨"com/example/word_odds/wordodds/filter/VerdictFieldBeginsPinLaw", "nameByte", "(II)B"⟩ : MethodName)) hown (mvT hZ (hw _ (List.mem_of_getElem? (i := 2) rfl))) (mvT hZ (hw _ (List.mem_of_getElem? (i := 3) rfl))) (mvT hZ (hw _ (List.mem_of_getElem? (i := 4) rfl))) (mvT hZ (hw _ (List.mem_of_getElem? (i := 5) rfl))) (by decide) (own_backX (W := 2) (PX := fun vm_ => Lit (Z.setVm vm_) "com/example/word_odds/wordodds/filter/VerdictFieldBeginsPinLaw" 32 la) (rm1_32w l Z a0 hw [] (9 : Int32) p2 gC vG (68 : Int32) (68 : Int32) b2 k2 (own_up wl8 (f + 8) (nar .byte nb8)) la lb lk  h29 n0 (Nat.le_trans Z0 K30.1) (SC.ext O_30.2) cC hvG (SG.ext O_30.2) hbit9 ⟨by decide, by decide⟩ rfl (by decide) (by decide) G29 lfE lfC lfV lfA hEL) hZ (hw _ (List.mem_of_getElem? (i := 5) rfl)) (hw _ (List.mem_of_getElem? (i := 4) rfl)) (by decide) (by decide) hEL hC.1 G29.lt Sf28_b2__K30 (fun _ q => own_lstay (s := s) lLi q)) (g := (mkF m 155 #[.val (.int p0), .val (.int p1), .val (.int p2), .val (.int p3), .val (.int p4), .val (.int fr), .val (.int tt), .val (.ref b2), .unset, .unset, .unset, .unset, .unset, .unset, .unset, .unset, .unset, .unset, .unset, .unset, .unset, .unset, .unset, .unset] [(.int p2), (.int (9 : Int32)), (.int (fr + (9 : Int32))), (.ref b2)])) rfl (by rw [hml]; rfl) (argsL := [(.int (9 : Int32)), (.int p2)]) (rest := [(.int (fr + (9 : Int32))), (.ref b2)]) (lenOf pd_11 rfl) rfl (by show 2 * 0 + _ ≤ _; exact Nat.le_of_eq rfl) (hb hby at_155) (fun _ _ => ⟨rfl, e29, (by decide : 3 + 0 ≤ _), (by decide : 72 + 0 ≤ _)⟩)
          dsimp only [Pt.U, Pt.locs, Pt.cells, Pt.slots] at X121 l121 y121 z121 st121 hQ121
          subst l121 y121 z121
          dsimp only [Pt.U, Pt.locs, Pt.cells, Pt.slots] at hSq121 hgq121 hr121
          obtain ⟨X121, hS, hZ, hown⟩ := rebS hS (by rw [e29]; exact hk) X121 hSq121 hgq121 hZ hown
          have hk := Nat.le_refl T121.heap.size
          have Sf28_b2__C121 := CHr.safe hr121 G29.lt Sf28_b2__K30
          have hC := hC.trans hr121
          obtain ⟨rfl, Nq121, Kq121⟩ := hQ121
          have N121 := Fr.app N29 Nq121
          have K122 : Keep h0 T121.heap [] := Keep.trans (ws := []) K30 Kq121 all0
          have O_122 : Old Z n0 T121.heap := O_30.keep Kq121 all0
          refine Runs.by (fun _ hr => st121.trans hr) ?_
          exact JC9 nb0 nb1 nb2 nb3 nb4 nb5 nb6 nb7 nb8 (68 : Int32) _ _ (own_up wl8 (f + 8) (nar .byte nb8)) _ _ _ _ _ X121 rfl N121 K122 O_122 hC hS hk hZ hown (G29.keep Kq121 nin0) Sf28_b2__C121 hnb0 hnb1 hnb2 hnb3 hnb4 hnb5 hnb6 hnb7 hnb8 (by decide) (by rw [hwl8]) (Or.inr (Or.inr (Or.inl ⟨rfl, rfl, (LSu.step hSq121.1 Kq121)⟩)))
      · skip
        by_cases hbit9 : ((p2 >>> ((9 : Int32) &&& 31)) &&& (1 : Int32)) = (0 : Int32)
        · skip
          obtain ⟨la, lb, lk, lLi, lfE, lfC, lfV, lfA, -, -⟩ := id LSl
          show Runs p e below _ (T29.setTop (mkF m 155 #[.val (.int p0), .val (.int p1), .val (.int p2), .val (.int p3), .val (.int p4), .val (.int fr), .val (.int tt), .val (.ref b2), .unset, .unset, .unset, .unset, .unset, .unset, .unset, .unset, .unset, .unset, .unset, .unset, .unset, .unset, .unset, .unset] [(.int p2), (.int (9 : Int32)), (.int (fr + (9 : Int32))), (.ref b2)]))
          obtain ⟨_, _, ⟨T123, L123, k123, n123⟩, -, X123, hSq123, hgq123, ⟨Lc123, hQ123, l123, y123, z123, hr123⟩, st123⟩ := callSS X29 hx (y := (⟨"com/example/word_odds/wordodds/filter/VerdictFieldBeginsPinLaw", "nameByte", "(II)B"⟩ : MethodName)) hown (mvT hZ (hw _ (List.mem_of_getElem? (i := 2) rfl))) (mvT hZ (hw _ (List.mem_of_getElem? (i := 3) rfl))) (mvT hZ (hw _ (List.mem_of_getElem? (i := 4) rfl))) (mvT hZ (hw _ (List.mem_of_getElem? (i := 5) rfl))) (by decide) (own_backX (W := 2) (PX := fun vm_ => Lit (Z.setVm vm_) "com/example/word_odds/wordodds/filter/VerdictFieldBeginsPinLaw" 24 la) (rm1_24w l Z a0 hw [] (9 : Int32) p2 gC vG (100 : Int32) (100 : Int32) b2 k2 (own_up wl8 (f + 8) (nar .byte nb8)) la lb lk  h29 n0 (Nat.le_trans Z0 K30.1) (SC.ext O_30.2) cC hvG (SG.ext O_30.2) hbit9 ⟨by decide, by decide⟩ rfl (by decide) (by decide) G29 lfE lfC lfV lfA hEL) hZ (hw _ (List.mem_of_getElem? (i := 5) rfl)) (hw _ (List.mem_of_getElem? (i := 4) rfl)) (by decide) (by decide) hEL hC.1 G29.lt Sf28_b2__K30 (fun _ q => own_lstay (s := s) lLi q)) (g := (mkF m 155 #[.val (.int p0), .val (.int p1), .val (.int p2), .val (.int p3), .val (.int p4), .val (.int fr), .val (.int tt), .val (.ref b2), .unset, .unset, .unset, .unset, .unset, .unset, .unset, .unset, .unset, .unset, .unset, .unset, .unset, .unset, .unset, .unset] [(.int p2), (.int (9 : Int32)), (.int (fr + (9 : Int32))), (.ref b2)])) rfl (by rw [hml]; rfl) (argsL := [(.int (9 : Int32)), (.int p2)]) (rest := [(.int (fr + (9 : Int32))), (.ref b2)]) (lenOf pd_11 rfl) rfl (by show 2 * 0 + _ ≤ _; exact Nat.le_of_eq rfl) (hb hby at_155) (fun _ _ => ⟨rfl, e29, (by decide : 5 + 0 ≤ _), (by decide : 120 + 0 ≤ _)⟩)
          dsimp only [Pt.U, Pt.locs, Pt.cells, Pt.slots] at X123 l123 y123 z123 st123 hQ123
          subst l123 y123 z123
          dsimp only [Pt.U, Pt.locs, Pt.cells, Pt.slots] at hSq123 hgq123 hr123
          obtain ⟨X123, hS, hZ, hown⟩ := rebS hS (by rw [e29]; exact hk) X123 hSq123 hgq123 hZ hown
          have hk := Nat.le_refl T123.heap.size
          have Sf28_b2__C123 := CHr.safe hr123 G29.lt Sf28_b2__K30
          have hC := hC.trans hr123
          obtain ⟨rfl, Nq123, Kq123⟩ := hQ123
          have N123 := Fr.app N29 Nq123
          have K124 : Keep h0 T123.heap [] := Keep.trans (ws := []) K30 Kq123 all0
          have O_124 : Old Z n0 T123.heap := O_30.keep Kq123 all0
          refine Runs.by (fun _ hr => st123.trans hr) ?_
          exact JC9 nb0 nb1 nb2 nb3 nb4 nb5 nb6 nb7 nb8 (100 : Int32) _ _ (own_up wl8 (f + 8) (nar .byte nb8)) _ _ _ _ _ X123 rfl N123 K124 O_124 hC hS hk hZ hown (G29.keep Kq123 nin0) Sf28_b2__C123 hnb0 hnb1 hnb2 hnb3 hnb4 hnb5 hnb6 hnb7 hnb8 (by decide) (by rw [hwl8]) (Or.inr (Or.inr (Or.inr ⟨rfl, rfl, (LSl.step hSq123.1 Kq123), (LSu.step hSq123.1 Kq123)⟩)))
        · skip
          obtain ⟨la, lb, lk, lLi, lfE, lfC, lfV, lfA, -, -⟩ := id LSu
          show Runs p e below _ (T29.setTop (mkF m 155 #[.val (.int p0), .val (.int p1), .val (.int p2), .val (.int p3), .val (.int p4), .val (.int fr), .val (.int tt), .val (.ref b2), .unset, .unset, .unset, .unset, .unset, .unset, .unset, .unset, .unset, .unset, .unset, .unset, .unset, .unset, .unset, .unset] [(.int p2), (.int (9 : Int32)), (.int (fr + (9 : Int32))), (.ref b2)]))
          obtain ⟨_, _, ⟨T125, L125, k125, n125⟩, -, X125, hSq125, hgq125, ⟨Lc125, hQ125, l125, y125, z125, hr125⟩, st125⟩ := callSS X29 hx (y := (⟨"com/example/word_odds/wordodds/filter/VerdictFieldBeginsPinLaw", "nameByte", "(II)B"⟩ : MethodName)) hown (mvT hZ (hw _ (List.mem_of_getElem? (i := 2) rfl))) (mvT hZ (hw _ (List.mem_of_getElem? (i := 3) rfl))) (mvT hZ (hw _ (List.mem_of_getElem? (i := 4) rfl))) (mvT hZ (hw _ (List.mem_of_getElem? (i := 5) rfl))) (by decide) (own_backX (W := 2) (PX := fun vm_ => Lit (Z.setVm vm_) "com/example/word_odds/wordodds/filter/VerdictFieldBeginsPinLaw" 32 la) (rm1_32w l Z a0 hw [] (9 : Int32) p2 gC vG (68 : Int32) (68 : Int32) b2 k2 (own_up wl8 (f + 8) (nar .byte nb8)) la lb lk  h29 n0 (Nat.le_trans Z0 K30.1) (SC.ext O_30.2) cC hvG (SG.ext O_30.2) hbit9 ⟨by decide, by decide⟩ rfl (by decide) (by decide) G29 lfE lfC lfV lfA hEL) hZ (hw _ (List.mem_of_getElem? (i := 5) rfl)) (hw _ (List.mem_of_getElem? (i := 4) rfl)) (by decide) (by decide) hEL hC.1 G29.lt Sf28_b2__K30 (fun _ q => own_lstay (s := s) lLi q)) (g := (mkF m 155 #[.val (.int p0), .val (.int p1), .val (.int p2), .val (.int p3), .val (.int p4), .val (.int fr), .val (.int tt), .val (.ref b2), .unset, .unset, .unset, .unset, .unset, .unset, .unset, .unset, .unset, .unset, .unset, .unset, .unset, .unset, .unset, .unset] [(.int p2), (.int (9 : Int32)), (.int (fr + (9 : Int32))), (.ref b2)])) rfl (by rw [hml]; rfl) (argsL := [(.int (9 : Int32)), (.int p2)]) (rest := [(.int (fr + (9 : Int32))), (.ref b2)]) (lenOf pd_11 rfl) rfl (by show 2 * 0 + _ ≤ _; exact Nat.le_of_eq rfl) (hb hby at_155) (fun _ _ => ⟨rfl, e29, (by decide : 5 + 0 ≤ _), (by decide : 120 + 0 ≤ _)⟩)
          dsimp only [Pt.U, Pt.locs, Pt.cells, Pt.slots] at X125 l125 y125 z125 st125 hQ125
          subst l125 y125 z125
          dsimp only [Pt.U, Pt.locs, Pt.cells, Pt.slots] at hSq125 hgq125 hr125
          obtain ⟨X125, hS, hZ, hown⟩ := rebS hS (by rw [e29]; exact hk) X125 hSq125 hgq125 hZ hown
          have hk := Nat.le_refl T125.heap.size
          have Sf28_b2__C125 := CHr.safe hr125 G29.lt Sf28_b2__K30
          have hC := hC.trans hr125
          obtain ⟨rfl, Nq125, Kq125⟩ := hQ125
          have N125 := Fr.app N29 Nq125
          have K126 : Keep h0 T125.heap [] := Keep.trans (ws := []) K30 Kq125 all0
          have O_126 : Old Z n0 T125.heap := O_30.keep Kq125 all0
          refine Runs.by (fun _ hr => st125.trans hr) ?_
          exact JC9 nb0 nb1 nb2 nb3 nb4 nb5 nb6 nb7 nb8 (68 : Int32) _ _ (own_up wl8 (f + 8) (nar .byte nb8)) _ _ _ _ _ X125 rfl N125 K126 O_126 hC hS hk hZ hown (G29.keep Kq125 nin0) Sf28_b2__C125 hnb0 hnb1 hnb2 hnb3 hnb4 hnb5 hnb6 hnb7 hnb8 (by decide) (by rw [hwl8]) (Or.inr (Or.inr (Or.inr ⟨rfl, rfl, (LSl.step hSq125.1 Kq125), (LSu.step hSq125.1 Kq125)⟩)))
    have JC7 : ∀ (nb0 nb1 nb2 nb3 nb4 nb5 nb6 nb7 : Int32) (cJ7 sJ7 : Nat) (wl7 : Nat → Int32) (TJ25 : State) (hJ25 : Heap) (lJ25 : List Loc) (vJ25 : Vm) (kJ25 : Nat) (XJ25 : Stand p l e room_1 (s.setVm vJ25) m #[(.int p0), (.int p1), (.int p2), (.int p3), (.int p4)] below meth c TJ25 lJ25 cJ7 sJ7) (eJ25 : TJ25.heap = hJ25) (NJ25 : Fr n0 lJ25) (KJ25 : Keep h0 hJ25 []) (OJ25 : Old Z n0 hJ25) (hCJ25 : CHr Z consts_1 s.vm s.heap vJ25 hJ25) (hSJ25 : s.Since vJ25 kJ25) (hkJ25 : kJ25 ≤ hJ25.size) (hZJ25 : Z.Warmed39 vJ25) (hoJ25 : vJ25.findClass "com/example/word_odds/wordodds/filter/VerdictFieldBeginsPinLaw" = some m.cls) (fJ25_0 : Arf Z hJ25 b2 k2 .byte (24 : Int32) (fun j_ => .int (wl7 j_))) (Sf25_b2 : Safe Z consts_1 vJ25 hJ25 b2) (hnb0 : own_lc (nar .byte nb0) = (120 : Int32)) (hnb1 : own_lc (nar .byte nb1) = (45 : Int32)) (hnb2 : own_lc (nar .byte nb2) = (119 : Int32)) (hnb3 : own_lc (nar .byte nb3) = (111 : Int32)) (hnb4 : own_lc (nar .byte nb4) = (114 : Int32)) (hnb5 : own_lc (nar .byte nb5) = (100 : Int32)) (hnb6 : own_lc (nar .byte nb6) = (45 : Int32)) (hnb7 : own_lc (nar .byte nb7) = (111 : Int32)) (hwl7 : wl7 = (own_up (own_up (own_up (own_up (own_up (own_up (own_up (fun _ => (0 : Int32)) (f + 0) (nar .byte nb0)) (f + 1) (nar .byte nb1)) (f + 2) (nar .byte nb2)) (f + 3) (nar .byte nb3)) (f + 4) (nar .byte nb4)) (f + 5) (nar .byte nb5)) (f + 6) (nar .byte nb6))) (inv : own_inv Z vJ25 hJ25 b2 cJ7 sJ7), Runs p e below (QEW Z consts_1 s (Q_rm0 Z p0 p1 p2 p3 p4 gC vG lo ko h0 n0) room_1.cells room_1.slots) (TJ25.setTop (mkF m 130 #[.val (.int p0), .val (.int p1), .val (.int p2), .val (.int p3), .val (.int p4), .val (.int fr), .val (.int tt), .val (.ref b2), .unset, .unset, .unset, .unset, .unset, .unset, .unset, .unset, .unset, .unset, .unset, .unset, .unset, .unset, .unset, .unset] [(.int nb7), (.int (fr + (7 : Int32))), (.ref b2)])) := by
      intro nb0 nb1 nb2 nb3 nb4 nb5 nb6 nb7 cJ7 sJ7 wl7 TJ25 hJ25 lJ25 vJ25 kJ25 XJ25 eJ25 NJ25 KJ25 OJ25 hC hS hk hZ hown fJ25_0 Sf25_b2 hnb0 hnb1 hnb2 hnb3 hnb4 hnb5 hnb6 hnb7 hwl7 inv
      clear JC9 JC10
      show Runs p e below _ (TJ25.setTop (mkF m 130 #[.val (.int p0), .val (.int p1), .val (.int p2), .val (.int p3), .val (.int p4), .val (.int fr), .val (.int tt), .val (.ref b2), .unset, .unset, .unset, .unset, .unset, .unset, .unset, .unset, .unset, .unset, .unset, .unset, .unset, .unset, .unset, .unset] [(.int nb7), (.int (fr + (7 : Int32))), (.ref b2)]))
      obtain ⟨cl26, Ar26, q26, S26, N26', H26⟩ := id fJ25_0
      have ix26 := own_ix (j := (fr + (7 : Int32))) (z := (24 : Int32)) (n := f + 7) (own_ad hf h3 (n := 7) (by decide) (by decide)) (own_ad24 hf h3 (n := 7) (by decide) (by decide))
      have hin26 : ¬ ((fr + (7 : Int32)) < 0 ∨ cl26.slots.size ≤ ((fr + (7 : Int32))).toNatClampNeg) := inb_of S26 ix26.1
      obtain ⟨T26, h26, X26, e26, W26, st26⟩ := stB XJ25 hx hZ eJ25 Ar26 (j := (fr + (7 : Int32))) hin26 (g := (mkF m 130 #[.val (.int p0), .val (.int p1), .val (.int p2), .val (.int p3), .val (.int p4), .val (.int fr), .val (.int tt), .val (.ref b2), .unset, .unset, .unset, .unset, .unset, .unset, .unset, .unset, .unset, .unset, .unset, .unset, .unset, .unset, .unset, .unset] [(.int nb7), (.int (fr + (7 : Int32))), (.ref b2)])) rfl rfl (hb hby at_130)
      have G26 : Arf Z h26 b2 k2 .byte (24 : Int32) (fun j_ => .int ((own_up wl7 (f + 7) (nar .byte nb7)) j_)) := (Arf.set Ar26 q26 S26 N26' H26 W26 ix26.2.1).cast (fun j_ _ => own_up_map Value.int _ _ _ j_)
      have K27 : Keep h0 h26 [] := KJ25.wr W26 (Or.inr sz_b2)
      have O_27 : Old Z n0 h26 := OJ25.wr W26 g_b2
      have Sf25_b2__K27 := Safe.wr W26 Sf25_b2 hC.1 Sf25_b2
      have hk : _ ≤ h26.size := Nat.le_trans hk (Keep.of_wr W26).1
      have hC := hC.trans (CHr.wr W26 Sf25_b2 hC.1)
      have inv := inv.wr W26
      have N26 := Fr.snoc X26 NJ25 g_b2
      refine Runs.by st26 ?_
      refine Runs.by (fun _ hr => XS.aload X26.here hx rfl (hb hby at_131) rfl rfl hr) ?_
      refine Runs.by (fun _ hr => XS.iload X26.here hx rfl (hb hby at_133) rfl  hr) ?_
      show Runs p e below _ (T26.setTop (mkF m 135 #[.val (.int p0), .val (.int p1), .val (.int p2), .val (.int p3), .val (.int p4), .val (.int fr), .val (.int tt), .val (.ref b2), .unset, .unset, .unset, .unset, .unset, .unset, .unset, .unset, .unset, .unset, .unset, .unset, .unset, .unset, .unset, .unset] [(.int fr), (.ref b2)]))
      refine Runs.by (fun _ hr => XS.bipush X26.here hx rfl (hb hby at_135) hr) ?_
      refine Runs.by (fun _ hr => XS.iadd X26.here hx rfl (hb hby at_137) rfl hr) ?_
      refine Runs.by (fun _ hr => XS.bipush X26.here hx rfl (hb hby at_138) hr) ?_
      show Runs p e below _ (T26.setTop (mkF m 140 #[.val (.int p0), .val (.int p1), .val (.int p2), .val (.int p3), .val (.int p4), .val (.int fr), .val (.int tt), .val (.ref b2), .unset, .unset, .unset, .unset, .unset, .unset, .unset, .unset, .unset, .unset, .unset, .unset, .unset, .unset, .unset, .unset] [(.int (8 : Int32)), (.int (fr + (8 : Int32))), (.ref b2)]))
      refine Runs.by (fun _ hr => XS.iloadN X26.here hx rfl (hb hby at_140) rfl  hr) ?_
      rcases inv with ⟨rfl, rfl⟩ | ⟨rfl, rfl, LSl⟩ | ⟨rfl, rfl, LSu⟩ | ⟨rfl, rfl, LSl, LSu⟩
      · skip
        by_cases hbit8 : ((p2 >>> ((8 : Int32) &&& 31)) &&& (1 : Int32)) = (0 : Int32)
        · skip
          show Runs p e below _ (T26.setTop (mkF m 141 #[.val (.int p0), .val (.int p1), .val (.int p2), .val (.int p3), .val (.int p4), .val (.int fr), .val (.int tt), .val (.ref b2), .unset, .unset, .unset, .unset, .unset, .unset, .unset, .unset, .unset, .unset, .unset, .unset, .unset, .unset, .unset, .unset] [(.int p2), (.int (8 : Int32)), (.int (fr + (8 : Int32))), (.ref b2)]))
          obtain ⟨_, _, ⟨T127, L127, k127, n127⟩, -, X127, hSq127, hgq127, ⟨Lc127, hQ127, l127, y127, z127, hr127⟩, st127⟩ := callSS X26 hx (y := (⟨"com/example/word_odds/wordodds/filter/VerdictFieldBeginsPinLaw", "nameByte", "(II)B"⟩ : MethodName)) hown (mvT hZ (hw _ (List.mem_of_getElem? (i := 2) rfl))) (mvT hZ (hw _ (List.mem_of_getElem? (i := 3) rfl))) (mvT hZ (hw _ (List.mem_of_getElem? (i := 4) rfl))) (mvT hZ (hw _ (List.mem_of_getElem? (i := 5) rfl))) (by decide) (own_backX (W := 2) (PX := fun _ => True) (rm1_24c l Z a0 hw [] (8 : Int32) p2 gC vG (100 : Int32) (100 : Int32) b2 k2 (own_up wl7 (f + 7) (nar .byte nb7))  h26 n0 (Nat.le_trans Z0 K27.1) (SC.ext O_27.2) cC hvG (SG.ext O_27.2) hbit8 ⟨by decide, by decide⟩ rfl (by decide) (by decide) G26 hEL) hZ (hw _ (List.mem_of_getElem? (i := 5) rfl)) (hw _ (List.mem_of_getElem? (i := 4) rfl)) (by decide) (by decide) hEL hC.1 G26.lt Sf25_b2__K27 (fun _ _ => trivial)) (g := (mkF m 141 #[.val (.int p0), .val (.int p1), .val (.int p2), .val (.int p3), .val (.int p4), .val (.int fr), .val (.int tt), .val (.ref b2), .unset, .unset, .unset, .unset, .unset, .unset, .unset, .unset, .unset, .unset, .unset, .unset, .unset, .unset, .unset, .unset] [(.int p2), (.int (8 : Int32)), (.int (fr + (8 : Int32))), (.ref b2)])) rfl (by rw [hml]; rfl) (argsL := [(.int (8 : Int32)), (.int p2)]) (rest := [(.int (fr + (8 : Int32))), (.ref b2)]) (lenOf pd_11 rfl) rfl (by show 2 * 0 + _ ≤ _; exact Nat.le_of_eq rfl) (hb hby at_141) (fun _ _ => ⟨rfl, e26, (by decide : 1 + 2 ≤ _), (by decide : 24 + 48 ≤ _)⟩)
          dsimp only [Pt.U, Pt.locs, Pt.cells, Pt.slots] at X127 l127 y127 z127 st127 hQ127
          subst l127 y127 z127
          dsimp only [Pt.U, Pt.locs, Pt.cells, Pt.slots] at hSq127 hgq127 hr127
          obtain ⟨X127, hS, hZ, hown⟩ := rebS hS (by rw [e26]; exact hk) X127 hSq127 hgq127 hZ hown
          have hk := Nat.le_refl T127.heap.size
          have Sf25_b2__C127 := CHr.safe hr127 G26.lt Sf25_b2__K27
          have hC := hC.trans hr127
          obtain ⟨rfl, Nq127, Kq127, LSq127⟩ := hQ127
          have N127 := Fr.app N26 Nq127
          have K128 : Keep h0 T127.heap [] := Keep.trans (ws := []) K27 Kq127 all0
          have O_128 : Old Z n0 T127.heap := O_27.keep Kq127 all0
          refine Runs.by (fun _ hr => st127.trans hr) ?_
          exact JC8 nb0 nb1 nb2 nb3 nb4 nb5 nb6 nb7 (100 : Int32) _ _ (own_up wl7 (f + 7) (nar .byte nb7)) _ _ _ _ _ X127 rfl N127 K128 O_128 hC hS hk hZ hown (G26.keep Kq127 nin0) Sf25_b2__C127 hnb0 hnb1 hnb2 hnb3 hnb4 hnb5 hnb6 hnb7 (by decide) (by rw [hwl7]) (Or.inr (Or.inl ⟨rfl, rfl, LSq127⟩))
        · skip
          show Runs p e below _ (T26.setTop (mkF m 141 #[.val (.int p0), .val (.int p1), .val (.int p2), .val (.int p3), .val (.int p4), .val (.int fr), .val (.int tt), .val (.ref b2), .unset, .unset, .unset, .unset, .unset, .unset, .unset, .unset, .unset, .unset, .unset, .unset, .unset, .unset, .unset, .unset] [(.int p2), (.int (8 : Int32)), (.int (fr + (8 : Int32))), (.ref b2)]))
          obtain ⟨_, _, ⟨T129, L129, k129, n129⟩, -, X129, hSq129, hgq129, ⟨Lc129, hQ129, l129, y129, z129, hr129⟩, st129⟩ := callSS X26 hx (y := (⟨"com/example/word_odds/wordodds/filter/VerdictFieldBeginsPinLaw", "nameByte", "(II)B"⟩ : MethodName)) hown (mvT hZ (hw _ (List.mem_of_getElem? (i := 2) rfl))) (mvT hZ (hw _ (List.mem_of_getElem? (i := 3) rfl))) (mvT hZ (hw _ (List.mem_of_getElem? (i := 4) rfl))) (mvT hZ (hw _ (List.mem_of_getElem? (i := 5) rfl))) (by decide) (own_backX (W := 2) (PX := fun _ => True) (rm1_32c l Z a0 hw [] (8 : Int32) p2 gC vG (68 : Int32) (68 : Int32) b2 k2 (own_up wl7 (f + 7) (nar .byte nb7))  h26 n0 (Nat.le_trans Z0 K27.1) (SC.ext O_27.2) cC hvG (SG.ext O_27.2) hbit8 ⟨by decide, by decide⟩ rfl (by decide) (by decide) G26 hEL) hZ (hw _ (List.mem_of_getElem? (i := 5) rfl)) (hw _ (List.mem_of_getElem? (i := 4) rfl)) (by decide) (by decide) hEL hC.1 G26.lt Sf25_b2__K27 (fun _ _ => trivial)) (g := (mkF m 141 #[.val (.int p0), .val (.int p1), .val (.int p2), .val (.int p3), .val (.int p4), .val (.int fr), .val (.int tt), .val (.ref b2), .unset, .unset, .unset, .unset, .unset, .unset, .unset, .unset, .unset, .unset, .unset, .unset, .unset, .unset, .unset, .unset] [(.int p2), (.int (8 : Int32)), (.int (fr + (8 : Int32))), (.ref b2)])) rfl (by rw [hml]; rfl) (argsL := [(.int (8 : Int32)), (.int p2)]) (rest := [(.int (fr + (8 : Int32))), (.ref b2)]) (lenOf pd_11 rfl) rfl (by show 2 * 0 + _ ≤ _; exact Nat.le_of_eq rfl) (hb hby at_141) (fun _ _ => ⟨rfl, e26, (by decide : 1 + 2 ≤ _), (by decide : 24 + 48 ≤ _)⟩)
          dsimp only [Pt.U, Pt.locs, Pt.cells, Pt.slots] at X129 l129 y129 z129 st129 hQ129
          subst l129 y129 z129
          dsimp only [Pt.U, Pt.locs, Pt.cells, Pt.slots] at hSq129 hgq129 hr129
          obtain ⟨X129, hS, hZ, hown⟩ := rebS hS (by rw [e26]; exact hk) X129 hSq129 hgq129 hZ hown
          have hk := Nat.le_refl T129.heap.size
          have Sf25_b2__C129 := CHr.safe hr129 G26.lt Sf25_b2__K27
          have hC := hC.trans hr129
          obtain ⟨rfl, Nq129, Kq129, LSq129⟩ := hQ129
          have N129 := Fr.app N26 Nq129
          have K130 : Keep h0 T129.heap [] := Keep.trans (ws := []) K27 Kq129 all0
          have O_130 : Old Z n0 T129.heap := O_27.keep Kq129 all0
          refine Runs.by (fun _ hr => st129.trans hr) ?_
          exact JC8 nb0 nb1 nb2 nb3 nb4 nb5 nb6 nb7 (68 : Int32) _ _ (own_up wl7 (f + 7) (nar .byte nb7)) _ _ _ _ _ X129 rfl N129 K130 O_130 hC hS hk hZ hown (G26.keep Kq129 nin0) Sf25_b2__C129 hnb0 hnb1 hnb2 hnb3 hnb4 hnb5 hnb6 hnb7 (by decide) (by rw [hwl7]) (Or.inr (Or.inr (Or.inl ⟨rfl, rfl, LSq129⟩)))
      · skip
        by_cases hbit8 : ((p2 >>> ((8 : Int32) &&& 31)) &&& (1 : Int32)) = (0 : Int32)
        · skip
          obtain ⟨la, lb, lk, lLi, lfE, lfC, lfV, lfA, -, -⟩ := id LSl
          show Runs p e below _ (T26.setTop (mkF m 141 #[.val (.int p0), .val (.int p1), .val (.int p2), .val (.int p3), .val (.int p4), .val (.int fr), .val (.int tt), .val (.ref b2), .unset, .unset, .unset, .unset, .unset, .unset, .unset, .unset, .unset, .unset, .unset, .unset, .unset, .unset, .unset, .unset] [(.int p2), (.int (8 : Int32)), (.int (fr + (8 : Int32))), (.ref b2)]))
          obtain ⟨_, _, ⟨T131, L131, k131, n131⟩, -, X131, hSq131, hgq131, ⟨Lc131, hQ131, l131, y131, z131, hr131⟩, st131⟩ := callSS X26 hx (y := (⟨"com/example/word_odds/wordodds/filter/VerdictFieldBeginsPinLaw", "nameByte", "(II)B"⟩ : MethodName)) hown (mvT hZ (hw _ (List.mem_of_getElem? (i := 2) rfl))) (mvT hZ (hw _ (List.mem_of_getElem? (i := 3) rfl))) (mvT hZ (hw _ (List.mem_of_getElem? (i := 4) rfl))) (mvT hZ (hw _ (List.mem_of_getElem? (i := 5) rfl))) (by decide) (own_backX (W := 2) (PX := fun vm_ => Lit (Z.setVm vm_) "com/example/word_odds/wordodds/filter/VerdictFieldBeginsPinLaw" 24 la) (rm1_24w l Z a0 hw [] (8 : Int32) p2 gC vG (100 : Int32) (100 : Int32) b2 k2 (own_up wl7 (f + 7) (nar .byte nb7)) la lb lk  h26 n0 (Nat.le_trans Z0 K27.1) (SC.ext O_27.2) cC hvG (SG.ext O_27.2) hbit8 ⟨by decide, by decide⟩ rfl (by decide) (by decide) G26 lfE lfC lfV lfA hEL) hZ (hw _ (List.mem_of_getElem? (i := 5) rfl)) (hw _ (List.mem_of_getElem? (i := 4) rfl)) (by decide) (by decide) hEL hC.1 G26.lt Sf25_b2__K27 (fun _ q => own_lstay (s := s) lLi q)) (g := (mkF m 141 #[.val (.int p0), .val (.int p1), .val (.int p2), .val (.int p3), .val (.int p4), .val (.int fr), .val (.int tt), .val (.ref b2), .unset, .unset, .unset, .unset, .unset, .unset, .unset, .unset, .unset, .unset, .unset, .unset, .unset, .unset, .unset, .unset] [(.int p2), (.int (8 : Int32)), (.int (fr + (8 : Int32))), (.ref b2)])) rfl (by rw [hml]; rfl) (argsL := [(.int (8 : Int32)), (.int p2)]) (rest := [(.int (fr + (8 : Int32))), (.ref b2)]) (lenOf pd_11 rfl) rfl (by show 2 * 0 + _ ≤ _; exact Nat.le_of_eq rfl) (hb hby at_141) (fun _ _ => ⟨rfl, e26, (by decide : 3 + 0 ≤ _), (by decide : 72 + 0 ≤ _)⟩)
          dsimp only [Pt.U, Pt.locs, Pt.cells, Pt.slots] at X131 l131 y131 z131 st131 hQ131
          subst l131 y131 z131
          dsimp only [Pt.U, Pt.locs, Pt.cells, Pt.slots] at hSq131 hgq131 hr131
          obtain ⟨X131, hS, hZ, hown⟩ := rebS hS (by rw [e26]; exact hk) X131 hSq131 hgq131 hZ hown
          have hk := Nat.le_refl T131.heap.size
          have Sf25_b2__C131 := CHr.safe hr131 G26.lt Sf25_b2__K27
          have hC := hC.trans hr131
          obtain ⟨rfl, Nq131, Kq131⟩ := hQ131
          have N131 := Fr.app N26 Nq131
          have K132 : Keep h0 T131.heap [] := Keep.trans (ws := []) K27 Kq131 all0
          have O_132 : Old Z n0 T131.heap := O_27.keep Kq131 all0
          refine Runs.by (fun _ hr => st131.trans hr) ?_
          exact JC8 nb0 nb1 nb2 nb3 nb4 nb5 nb6 nb7 (100 : Int32) _ _ (own_up wl7 (f + 7) (nar .byte nb7)) _ _ _ _ _ X131 rfl N131 K132 O_132 hC hS hk hZ hown (G26.keep Kq131 nin0) Sf25_b2__C131 hnb0 hnb1 hnb2 hnb3 hnb4 hnb5 hnb6 hnb7 (by decide) (by rw [hwl7]) (Or.inr (Or.inl ⟨rfl, rfl, (LSl.step hSq131.1 Kq131)⟩))
        · skip
          show Runs p e below _ (T26.setTop (mkF m 141 #[.val (.int p0), .val (.int p1), .val (.int p2), .val (.int p3), .val (.int p4), .val (.int fr), .val (.int tt), .val (.ref b2), .unset, .unset, .unset, .unset, .unset, .unset, .unset, .unset, .unset, .unset, .unset, .unset, .unset, .unset, .unset, .unset] [(.int p2), (.int (8 : Int32)), (.int (fr + (8 : Int32))), (.ref b2)]))
          obtain ⟨_, _, ⟨T133, L133, k133, n133⟩, -, X133, hSq133, hgq133, ⟨Lc133, hQ133, l133, y133, z133, hr133⟩, st133⟩ := callSS X26 hx (y := (⟨"com/example/word_odds/wordodds/filter/VerdictFieldBeginsPinLaw", "nameByte", "(II)B"⟩ : MethodName)) hown (mvT hZ (hw _ (List.mem_of_getElem? (i := 2) rfl))) (mvT hZ (hw _ (List.mem_of_getElem? (i := 3) rfl))) (mvT hZ (hw _ (List.mem_of_getElem? (i := 4) rfl))) (mvT hZ (hw _ (List.mem_of_getElem? (i := 5) rfl))) (by decide) (own_backX (W := 2) (PX := fun _ => True) (rm1_32c l Z a0 hw [] (8 : Int32) p2 gC vG (68 : Int32) (68 : Int32) b2 k2 (own_up wl7 (f + 7) (nar .byte nb7))  h26 n0 (Nat.le_trans Z0 K27.1) (SC.ext O_27.2) cC hvG (SG.ext O_27.2) hbit8 ⟨by decide, by decide⟩ rfl (by decide) (by decide) G26 hEL) hZ (hw _ (List.mem_of_getElem? (i := 5) rfl)) (hw _ (List.mem_of_getElem? (i := 4) rfl)) (by decide) (by decide) hEL hC.1 G26.lt Sf25_b2__K27 (fun _ _ => trivial)) (g := (mkF m 141 #[.val (.int p0), .val (.int p1), .val (.int p2), .val (.int p3), .val (.int p4), .val (.int fr), .val (.int tt), .val (.ref b2), .unset, .unset, .unset, .unset, .unset, .unset, .unset, .unset, .unset, .unset, .unset, .unset, .unset, .unset, .unset, .unset] [(.int p2), (.int (8 : Int32)), (.int (fr + (8 : Int32))), (.ref b2)])) rfl (by rw [hml]; rfl) (argsL := [(.int (8 : Int32)), (.int p2)]) (rest := [(.int (fr + (8 : Int32))), (.ref b2)]) (lenOf pd_11 rfl) rfl (by show 2 * 0 + _ ≤ _; exact Nat.le_of_eq rfl) (hb hby at_141) (fun _ _ => ⟨rfl, e26, (by decide : 3 + 2 ≤ _), (by decide : 72 + 48 ≤ _)⟩)
          dsimp only [Pt.U, Pt.locs, Pt.cells, Pt.slots] at X133 l133 y133 z133 st133 hQ133
          subst l133 y133 z133
          dsimp only [Pt.U, Pt.locs, Pt.cells, Pt.slots] at hSq133 hgq133 hr133
          obtain ⟨X133, hS, hZ, hown⟩ := rebS hS (by rw [e26]; exact hk) X133 hSq133 hgq133 hZ hown
          have hk := Nat.le_refl T133.heap.size
          have Sf25_b2__C133 := CHr.safe hr133 G26.lt Sf25_b2__K27
          have hC := hC.trans hr133
          obtain ⟨rfl, Nq133, Kq133, LSq133⟩ := hQ133
          have N133 := Fr.app N26 Nq133
          have K134 : Keep h0 T133.heap [] := Keep.trans (ws := []) K27 Kq133 all0
          have O_134 : Old Z n0 T133.heap := O_27.keep Kq133 all0
          refine Runs.by (fun _ hr => st133.trans hr) ?_
          exact JC8 nb0 nb1 nb2 nb3 nb4 nb5 nb6 nb7 (68 : Int32) _ _ (own_up wl7 (f + 7) (nar .byte nb7)) _ _ _ _ _ X133 rfl N133 K134 O_134 hC hS hk hZ hown (G26.keep Kq133 nin0) Sf25_b2__C133 hnb0 hnb1 hnb2 hnb3 hnb4 hnb5 hnb6 hnb7 (by decide) (by rw [hwl7]) (Or.inr (Or.inr (Or.inr ⟨rfl, rfl, (LSl.step hSq133.1 Kq133), LSq133⟩)))
      · skip
        by_cases hbit8 : ((p2 >>> ((8 : Int32) &&& 31)) &&& (1 : Int32)) = (0 : Int32)
        · skip
          show Runs p e below _ (T26.setTop (mkF m 141 #[.val (.int p0), .val (.int p1), .val (.int p2), .val (.int p3), .val (.int p4), .val (.int fr), .val (.int tt), .val (.ref b2), .unset, .unset, .unset, .unset, .unset, .unset, .unset, .unset, .unset, .unset, .unset, .unset, .unset, .unset, .unset, .unset] [(.int p2), (.int (8 : Int32)), (.int (fr + (8 : Int32))), (.ref b2)]))
          obtain ⟨_, _, ⟨T135, L135, k135, n135⟩, -, X135, hSq135, hgq135, ⟨Lc135, hQ135, l135, y135, z135, hr135⟩, st135⟩ := callSS X26 hx (y := (⟨"com/example/word_odds/wordodds/filter/VerdictFieldBeginsPinLaw", "nameByte", "(II)B"⟩ : MethodName)) hown (mvT hZ (hw _ (List.mem_of_getElem? (i := 2) rfl))) (mvT hZ (hw _ (List.mem_of_getElem? (i := 3) rfl))) (mvT hZ (hw _ (List.mem_of_getElem? (i := 4) rfl))) (mvT hZ (hw _ (List.mem_of_getElem? (i := 5) rfl))) (by decide) (own_backX (W := 2) (PX := fun _ => True) (rm1_24c l Z a0 hw [] (8 : Int32) p2 gC vG (100 : Int32) (100 : Int32) b2 k2 (own_up wl7 (f + 7) (nar .byte nb7))  h26 n0 (Nat.le_trans Z0 K27.1) (SC.ext O_27.2) cC hvG (SG.ext O_27.2) hbit8 ⟨by decide, by decide⟩ rfl (by decide) (by decide) G26 hEL) hZ (hw _ (List.mem_of_getElem? (i := 5) rfl)) (hw _ (List.mem_of_getElem? (i := 4) rfl)) (by decide) (by decide) hEL hC.1 G26.lt Sf25_b2__K27 (fun _ _ => trivial)) (g := (mkF m 141 #[.val (.int p0), .val (.int p1), .val (.int p2), .val (.int p3), .val (.int p4), .val (.int fr), .val (.int tt), .val (.ref b2), .unset, .unset, .unset, .unset, .unset, .unset, .unset, .unset, .unset, .unset, .unset, .unset, .unset, .unset, .unset, .unset] [(.int p2), (.int (8 : Int32)), (.int (fr + (8 : Int32))), (.ref b2)])) rfl (by rw [hml]; rfl) (argsL := [(.int (8 : Int32)), (.int p2)]) (rest := [(.int (fr + (8 : Int32))), (.ref b2)]) (lenOf pd_11 rfl) rfl (by show 2 * 0 + _ ≤ _; exact Nat.le_of_eq rfl) (hb hby at_141) (fun _ _ => ⟨rfl, e26, (by decide : 3 + 2 ≤ _), (by decide : 72 + 48 ≤ _)⟩)
          dsimp only [Pt.U, Pt.locs, Pt.cells, Pt.slots] at X135 l135 y135 z135 st135 hQ135
          subst l135 y135 z135
          dsimp only [Pt.U, Pt.locs, Pt.cells, Pt.slots] at hSq135 hgq135 hr135
          obtain ⟨X135, hS, hZ, hown⟩ := rebS hS (by rw [e26]; exact hk) X135 hSq135 hgq135 hZ hown
          have hk := Nat.le_refl T135.heap.size
          have Sf25_b2__C135 := CHr.safe hr135 G26.lt Sf25_b2__K27
          have hC := hC.trans hr135
          obtain ⟨rfl, Nq135, Kq135, LSq135⟩ := hQ135
          have N135 := Fr.app N26 Nq135
          have K136 : Keep h0 T135.heap [] := Keep.trans (ws := []) K27 Kq135 all0
          have O_136 : Old Z n0 T135.heap := O_27.keep Kq135 all0
          refine Runs.by (fun _ hr => st135.trans hr) ?_
          exact JC8 nb0 nb1 nb2 nb3 nb4 nb5 nb6 nb7 (100 : Int32) _ _ (own_up wl7 (f + 7) (nar .byte nb7)) _ _ _ _ _ X135 rfl N135 K136 O_136 hC hS hk hZ hown (G26.keep Kq135 nin0) Sf25_b2__C135 hnb0 hnb1 hnb2 hnb3 hnb4 hnb5 hnb6 hnb7 (by decide) (by rw [hwl7]) (Or.inr (Or.inr (Or.inr ⟨rfl, rfl, LSq135, (LSu.step hSq135.1 Kq135)⟩)))
        · skip
          obtain ⟨la, lb, lk, lLi, lfE, lfC, lfV, lfA, -, -⟩ := id LSu
          show Runs p e below _ (T26.setTop (mkF m 141 #[.val (.int p0), .val (.int p1), .val (.int p2), .val (.int p3), .val (.int p4), .val (.int fr), .val (.int tt), .val (.ref b2), .unset, .unset, .unset, .unset, .unset, .unset, .unset, .unset, .unset, .unset, .unset, .unset, .unset, .unset, .unset, .unset] [(.int p2), (.int (8 : Int32)), (.int (fr + (8 : Int32))), (.ref b2)]))
          obtain ⟨_, _, ⟨T137, L137, k137, n137⟩, -, X137, hSq137, hgq137, ⟨Lc137, hQ137, l137, y137, z137, hr137⟩, st137⟩ := callSS X26 hx (y := (⟨"com/example/word_odds/wordodds/filter/VerdictFieldBeginsPinLaw", "nameByte", "(II)B"⟩ : MethodName)) hown (mvT hZ (hw _ (List.mem_of_getElem? (i := 2) rfl))) (mvT hZ (hw _ (List.mem_of_getElem? (i := 3) rfl))) (mvT hZ (hw _ (List.mem_of_getElem? (i := 4) rfl))) (mvT hZ (hw _ (List.mem_of_getElem? (i := 5) rfl))) (by decide) (own_backX (W := 2) (PX := fun vm_ => Lit (Z.setVm vm_) "com/example/word_odds/wordodds/filter/VerdictFieldBeginsPinLaw" 32 la) (rm1_32w l Z a0 hw [] (8 : Int32) p2 gC vG (68 : Int32) (68 : Int32) b2 k2 (own_up wl7 (f + 7) (nar .byte nb7)) la lb lk  h26 n0 (Nat.le_trans Z0 K27.1) (SC.ext O_27.2) cC hvG (SG.ext O_27.2) hbit8 ⟨by decide, by decide⟩ rfl (by decide) (by decide) G26 lfE lfC lfV lfA hEL) hZ (hw _ (List.mem_of_getElem? (i := 5) rfl)) (hw _ (List.mem_of_getElem? (i := 4) rfl)) (by decide) (by decide) hEL hC.1 G26.lt Sf25_b2__K27 (fun _ q => own_lstay (s := s) lLi q)) (g := (mkF m 141 #[.val (.int p0), .val (.int p1), .val (.int p2), .val (.int p3), .val (.int p4), .val (.int fr), .val (.int tt), .val (.ref b2), .unset, .unset, .unset, .unset, .unset, .unset, .unset, .unset, .unset, .unset, .unset, .unset, .unset, .unset, .unset, .unset] [(.int p2), (.int (8 : Int32)), (.int (fr + (8 : Int32))), (.ref b2)])) rfl (by rw [hml]; rfl) (argsL := [(.int (8 : Int32)), (.int p2)]) (rest := [(.int (fr + (8 : Int32))), (.ref b2)]) (lenOf pd_11 rfl) rfl (by show 2 * 0 + _ ≤ _; exact Nat.le_of_eq rfl) (hb hby at_141) (fun _ _ => ⟨rfl, e26, (by decide : 3 + 0 ≤ _), (by decide : 72 + 0 ≤ _)⟩)
          dsimp only [Pt.U, Pt.locs, Pt.cells, Pt.slots] at X137 l137 y137 z137 st137 hQ137
          subst l137 y137 z137
          dsimp only [Pt.U, Pt.locs, Pt.cells, Pt.slots] at hSq137 hgq137 hr137
          obtain ⟨X137, hS, hZ, hown⟩ := rebS hS (by rw [e26]; exact hk) X137 hSq137 hgq137 hZ hown
          have hk := Nat.le_refl T137.heap.size
          have Sf25_b2__C137 := CHr.safe hr137 G26.lt Sf25_b2__K27
          have hC := hC.trans hr137
          obtain ⟨rfl, Nq137, Kq137⟩ := hQ137
          have N137 := Fr.app N26 Nq137
          have K138 : Keep h0 T137.heap [] := Keep.trans (ws := []) K27 Kq137 all0
          have O_138 : Old Z n0 T137.heap := O_27.keep Kq137 all0
          refine Runs.by (fun _ hr => st137.trans hr) ?_
          exact JC8 nb0 nb1 nb2 nb3 nb4 nb5 nb6 nb7 (68 : Int32) _ _ (own_up wl7 (f + 7) (nar .byte nb7)) _ _ _ _ _ X137 rfl N137 K138 O_138 hC hS hk hZ hown (G26.keep Kq137 nin0) Sf25_b2__C137 hnb0 hnb1 hnb2 hnb3 hnb4 hnb5 hnb6 hnb7 (by decide) (by rw [hwl7]) (Or.inr (Or.inr (Or.inl ⟨rfl, rfl, (LSu.step hSq137.1 Kq137)⟩)))
      · skip
        by_cases hbit8 : ((p2 >>> ((8 : Int32) &&& 31)) &&& (1 : Int32)) = (0 : Int32)
        · skip
          obtain ⟨la, lb, lk, lLi, lfE, lfC, lfV, lfA, -, -⟩ := id LSl
          show Runs p e below _ (T26.setTop (mkF m 141 #[.val (.int p0), .val (.int p1), .val (.int p2), .val (.int p3), .val (.int p4), .val (.int fr), .val (.int tt), .val (.ref b2), .unset, .unset, .unset, .unset, .unset, .unset, .unset, .unset, .unset, .unset, .unset, .unset, .unset, .unset, .unset, .unset] [(.int p2), (.int (8 : Int32)), (.int (fr + (8 : Int32))), (.ref b2)]))
          obtain ⟨_, _, ⟨T139, L139, k139, n139⟩, -, X139, hSq139, hgq139, ⟨Lc139, hQ139, l139, y139, z139, hr139⟩, st139⟩ := callSS X26 hx (y := (⟨"com/example/word_odds/wordodds/filter/VerdictFieldBeginsPinLaw", "nameByte", "(II)B"⟩ : MethodName)) hown (mvT hZ (hw _ (List.mem_of_getElem? (i := 2) rfl))) (mvT hZ (hw _ (List.mem_of_getElem? (i := 3) rfl))) (mvT hZ (hw _ (List.mem_of_getElem? (i := 4) rfl))) (mvT hZ (hw _ (List.mem_of_getElem? (i := 5) rfl))) (by decide) (own_backX (W := 2) (PX := fun vm_ => Lit (Z.setVm vm_) "com/example/word_odds/wordodds/filter/VerdictFieldBeginsPinLaw" 24 la) (rm1_24w l Z a0 hw [] (8 : Int32) p2 gC vG (100 : Int32) (100 : Int32) b2 k2 (own_up wl7 (f + 7) (nar .byte nb7)) la lb lk  h26 n0 (Nat.le_trans Z0 K27.1) (SC.ext O_27.2) cC hvG (SG.ext O_27.2) hbit8 ⟨by decide, by decide⟩ rfl (by decide) (by decide) G26 lfE lfC lfV lfA hEL) hZ (hw _ (List.mem_of_getElem? (i := 5) rfl)) (hw _ (List.mem_of_getElem? (i := 4) rfl)) (by decide) (by decide) hEL hC.1 G26.lt Sf25_b2__K27 (fun _ q => own_lstay (s := s) lLi q)) (g := (mkF m 141 #[.val (.int p0), .val (.int p1), .val (.int p2), .val (.int p3), .val (.int p4), .val (.int fr), .val (.int tt), .val (.ref b2), .unset, .unset, .unset, .unset, .unset, .unset, .unset, .unset, .unset, .unset, .unset, .unset, .unset, .unset, .unset, .unset] [(.int p2), (.int (8 : Int32)), (.int (fr + (8 : Int32))), (.ref b2)])) rfl (by rw [hml]; rfl) (argsL := [(.int (8 : Int32)), (.int p2)]) (rest := [(.int (fr + (8 : Int32))), (.ref b2)]) (lenOf pd_11 rfl) rfl (by show 2 * 0 + _ ≤ _; exact Nat.le_of_eq rfl) (hb hby at_141) (fun _ _ => ⟨rfl, e26, (by decide : 5 + 0 ≤ _), (by decide : 120 + 0 ≤ _)⟩)
          dsimp only [Pt.U, Pt.locs, Pt.cells, Pt.slots] at X139 l139 y139 z139 st139 hQ139
          subst l139 y139 z139
          dsimp only [Pt.U, Pt.locs, Pt.cells, Pt.slots] at hSq139 hgq139 hr139
          obtain ⟨X139, hS, hZ, hown⟩ := rebS hS (by rw [e26]; exact hk) X139 hSq139 hgq139 hZ hown
          have hk := Nat.le_refl T139.heap.size
          have Sf25_b2__C139 := CHr.safe hr139 G26.lt Sf25_b2__K27
          have hC := hC.trans hr139
          obtain ⟨rfl, Nq139, Kq139⟩ := hQ139
          have N139 := Fr.app N26 Nq139
          have K140 : Keep h0 T139.heap [] := Keep.trans (ws := []) K27 Kq139 all0
          have O_140 : Old Z n0 T139.heap := O_27.keep Kq139 all0
          refine Runs.by (fun _ hr => st139.trans hr) ?_
          exact JC8 nb0 nb1 nb2 nb3 nb4 nb5 nb6 nb7 (100 : Int32) _ _ (own_up wl7 (f + 7) (nar .byte nb7)) _ _ _ _ _ X139 rfl N139 K140 O_140 hC hS hk hZ hown (G26.keep Kq139 nin0) Sf25_b2__C139 hnb0 hnb1 hnb2 hnb3 hnb4 hnb5 hnb6 hnb7 (by decide) (by rw [hwl7]) (Or.inr (Or.inr (Or.inr ⟨rfl, rfl, (LSl.step hSq139.1 Kq139), (LSu.step hSq139.1 Kq139)⟩)))
        · skip
          obtain ⟨la, lb, lk, lLi, lfE, lfC, lfV, lfA, -, -⟩ := id LSu
          show Runs p e below _ (T26.setTop (mkF m 141 #[.val (.int p0), .val (.int p1), .val (.int p2), .val (.int p3), .val (.int p4), .val (.int fr), .val (.int tt), .val (.ref b2), .unset, .unset, .unset, .unset, .unset, .unset, .unset, .unset, .unset, .unset, .unset, .unset, .unset, .unset, .unset, .unset] [(.int p2), (.int (8 : Int32)), (.int (fr + (8 : Int32))), (.ref b2)]))
          obtain ⟨_, _, ⟨T141, L141, k141, n141⟩, -, X141, hSq141, hgq141, ⟨Lc141, hQ141, l141, y141, z141, hr141⟩, st141⟩ := callSS X26 hx (y := (⟨"com/example/word_odds/wordodds/filter/VerdictFieldBeginsPinLaw", "nameByte", "(II)B"⟩ : MethodName)) hown (mvT hZ (hw _ (List.mem_of_getElem? (i := 2) rfl))) (mvT hZ (hw _ (List.mem_of_getElem? (i := 3) rfl))) (mvT hZ (hw _ (List.mem_of_getElem? (i := 4) rfl))) (mvT hZ (hw _ (List.mem_of_getElem? (i := 5) rfl))) (by decide) (own_backX (W := 2) (PX := fun vm_ => Lit (Z.setVm vm_) "com/example/word_odds/wordodds/filter/VerdictFieldBeginsPinLaw" 32 la) (rm1_32w l Z a0 hw [] (8 : Int32) p2 gC vG (68 : Int32) (68 : Int32) b2 k2 (own_up wl7 (f + 7) (nar .byte nb7)) la lb lk  h26 n0 (Nat.le_trans Z0 K27.1) (SC.ext O_27.2) cC hvG (SG.ext O_27.2) hbit8 ⟨by decide, by decide⟩ rfl (by decide) (by decide) G26 lfE lfC lfV lfA hEL) hZ (hw _ (List.mem_of_getElem? (i := 5) rfl)) (hw _ (List.mem_of_getElem? (i := 4) rfl)) (by decide) (by decide) hEL hC.1 G26.lt Sf25_b2__K27 (fun _ q => own_lstay (s := s) lLi q)) (g := (mkF m 141 #[.val (.int p0), .val (.int p1), .val (.int p2), .val (.int p3), .val (.int p4), .val (.int fr), .val (.int tt), .val (.ref b2), .unset, .unset, .unset, .unset, .unset, .unset, .unset, .unset, .unset, .unset, .unset, .unset, .unset, .unset, .unset, .unset] [(.int p2), (.int (8 : Int32)), (.int (fr + (8 : Int32))), (.ref b2)])) rfl (by rw [hml]; rfl) (argsL := [(.int (8 : Int32)), (.int p2)]) (rest := [(.int (fr + (8 : Int32))), (.ref b2)]) (lenOf pd_11 rfl) rfl (by show 2 * 0 + _ ≤ _; exact Nat.le_of_eq rfl) (hb hby at_141) (fun _ _ => ⟨rfl, e26, (by decide : 5 + 0 ≤ _), (by decide : 120 + 0 ≤ _)⟩)
          dsimp only [Pt.U, Pt.locs, Pt.cells, Pt.slots] at X141 l141 y141 z141 st141 hQ141
          subst l141 y141 z141
          dsimp only [Pt.U, Pt.locs, Pt.cells, Pt.slots] at hSq141 hgq141 hr141
          obtain ⟨X141, hS, hZ, hown⟩ := rebS hS (by rw [e26]; exact hk) X141 hSq141 hgq141 hZ hown
          have hk := Nat.le_refl T141.heap.size
          have Sf25_b2__C141 := CHr.safe hr141 G26.lt Sf25_b2__K27
          have hC := hC.trans hr141
          obtain ⟨rfl, Nq141, Kq141⟩ := hQ141
          have N141 := Fr.app N26 Nq141
          have K142 : Keep h0 T141.heap [] := Keep.trans (ws := []) K27 Kq141 all0
          have O_142 : Old Z n0 T141.heap := O_27.keep Kq141 all0
          refine Runs.by (fun _ hr => st141.trans hr) ?_
          exact JC8 nb0 nb1 nb2 nb3 nb4 nb5 nb6 nb7 (68 : Int32) _ _ (own_up wl7 (f + 7) (nar .byte nb7)) _ _ _ _ _ X141 rfl N141 K142 O_142 hC hS hk hZ hown (G26.keep Kq141 nin0) Sf25_b2__C141 hnb0 hnb1 hnb2 hnb3 hnb4 hnb5 hnb6 hnb7 (by decide) (by rw [hwl7]) (Or.inr (Or.inr (Or.inr ⟨rfl, rfl, (LSl.step hSq141.1 Kq141), (LSu.step hSq141.1 Kq141)⟩)))
    have JC6 : ∀ (nb0 nb1 nb2 nb3 nb4 nb5 nb6 : Int32) (cJ6 sJ6 : Nat) (wl6 : Nat → Int32) (TJ22 : State) (hJ22 : Heap) (lJ22 : List Loc) (vJ22 : Vm) (kJ22 : Nat) (XJ22 : Stand p l e room_1 (s.setVm vJ22) m #[(.int p0), (.int p1), (.int p2), (.int p3), (.int p4)] below meth c TJ22 lJ22 cJ6 sJ6) (eJ22 : TJ22.heap = hJ22) (NJ22 : Fr n0 lJ22) (KJ22 : Keep h0 hJ22 []) (OJ22 : Old Z n0 hJ22) (hCJ22 : CHr Z consts_1 s.vm s.heap vJ22 hJ22) (hSJ22 : s.Since vJ22 kJ22) (hkJ22 : kJ22 ≤ hJ22.size) (hZJ22 : Z.Warmed39 vJ22) (hoJ22 : vJ22.findClass "com/example/word_odds/wordodds/filter/VerdictFieldBeginsPinLaw" = some m.cls) (fJ22_0 : Arf Z hJ22 b2 k2 .byte (24 : Int32) (fun j_ => .int (wl6 j_))) (Sf22_b2 : Safe Z consts_1 vJ22 hJ22 b2) (hnb0 : own_lc (nar .byte nb0) = (120 : Int32)) (hnb1 : own_lc (nar .byte nb1) = (45 : Int32)) (hnb2 : own_lc (nar .byte nb2) = (119 : Int32)) (hnb3 : own_lc (nar .byte nb3) = (111 : Int32)) (hnb4 : own_lc (nar .byte nb4) = (114 : Int32)) (hnb5 : own_lc (nar .byte nb5) = (100 : Int32)) (hnb6 : own_lc (nar .byte nb6) = (45 : Int32)) (hwl6 : wl6 = (own_up (own_up (own_up (own_up (own_up (own_up (fun _ => (0 : Int32)) (f + 0) (nar .byte nb0)) (f + 1) (nar .byte nb1)) (f + 2) (nar .byte nb2)) (f + 3) (nar .byte nb3)) (f + 4) (nar .byte nb4)) (f + 5) (nar .byte nb5))) (inv : own_inv Z vJ22 hJ22 b2 cJ6 sJ6), Runs p e below (QEW Z consts_1 s (Q_rm0 Z p0 p1 p2 p3 p4 gC vG lo ko h0 n0) room_1.cells room_1.slots) (TJ22.setTop (mkF m 116 #[.val (.int p0), .val (.int p1), .val (.int p2), .val (.int p3), .val (.int p4), .val (.int fr), .val (.int tt), .val (.ref b2), .unset, .unset, .unset, .unset, .unset, .unset, .unset, .unset, .unset, .unset, .unset, .unset, .unset, .unset, .unset, .unset] [(.int nb6), (.int (fr + (6 : Int32))), (.ref b2)])) := by
      intro nb0 nb1 nb2 nb3 nb4 nb5 nb6 cJ6 sJ6 wl6 TJ22 hJ22 lJ22 vJ22 kJ22 XJ22 eJ22 NJ22 KJ22 OJ22 hC hS hk hZ hown fJ22_0 Sf22_b2 hnb0 hnb1 hnb2 hnb3 hnb4 hnb5 hnb6 hwl6 inv
      clear JC8 JC9 JC10
      show Runs p e below _ (TJ22.setTop (mkF m 116 #[.val (.int p0), .val (.int p1), .val (.int p2), .val (.int p3), .val (.int p4), .val (.int fr), .val (.int tt), .val (.ref b2), .unset, .unset, .unset, .unset, .unset, .unset, .unset, .unset, .unset, .unset, .unset, .unset, .unset, .unset, .unset, .unset] [(.int nb6), (.int (fr + (6 : Int32))), (.ref b2)]))
      obtain ⟨cl23, Ar23, q23, S23, N23', H23⟩ := id fJ22_0
      have ix23 := own_ix (j := (fr + (6 : Int32))) (z := (24 : Int32)) (n := f + 6) (own_ad hf h3 (n := 6) (by decide) (by decide)) (own_ad24 hf h3 (n := 6) (by decide) (by decide))
      have hin23 : ¬ ((fr + (6 : Int32)) < 0 ∨ cl23.slots.size ≤ ((fr + (6 : Int32))).toNatClampNeg) := inb_of S23 ix23.1
      obtain ⟨T23, h23, X23, e23, W23, st23⟩ := stB XJ22 hx hZ eJ22 Ar23 (j := (fr + (6 : Int32))) hin23 (g := (mkF m 116 #[.val (.int p0), .val (.int p1), .val (.int p2), .val (.int p3), .val (.int p4), .val (.int fr), .val (.int tt), .val (.ref b2), .unset, .unset, .unset, .unset, .unset, .unset, .unset, .unset, .unset, .unset, .unset, .unset, .unset, .unset, .unset, .unset] [(.int nb6), (.int (fr + (6 : Int32))), (.ref b2)])) rfl rfl (hb hby at_116)
      have G23 : Arf Z h23 b2 k2 .byte (24 : Int32) (fun j_ => .int ((own_up wl6 (f + 6) (nar .byte nb6)) j_)) := (Arf.set Ar23 q23 S23 N23' H23 W23 ix23.2.1).cast (fun j_ _ => own_up_map Value.int _ _ _ j_)
      have K24 : Keep h0 h23 [] := KJ22.wr W23 (Or.inr sz_b2)
      have O_24 : Old Z n0 h23 := OJ22.wr W23 g_b2
      have Sf22_b2__K24 := Safe.wr W23 Sf22_b2 hC.1 Sf22_b2
      have hk : _ ≤ h23.size := Nat.le_trans hk (Keep.of_wr W23).1
      have hC := hC.trans (CHr.wr W23 Sf22_b2 hC.1)
      have inv := inv.wr W23
      have N23 := Fr.snoc X23 NJ22 g_b2
      refine Runs.by st23 ?_
      refine Runs.by (fun _ hr => XS.aload X23.here hx rfl (hb hby at_117) rfl rfl hr) ?_
      refine Runs.by (fun _ hr => XS.iload X23.here hx rfl (hb hby at_119) rfl  hr) ?_
      show Runs p e below _ (T23.setTop (mkF m 121 #[.val (.int p0), .val (.int p1), .val (.int p2), .val (.int p3), .val (.int p4), .val (.int fr), .val (.int tt), .val (.ref b2), .unset, .unset, .unset, .unset, .unset, .unset, .unset, .unset, .unset, .unset, .unset, .unset, .unset, .unset, .unset, .unset] [(.int fr), (.ref b2)]))
      refine Runs.by (fun _ hr => XS.bipush X23.here hx rfl (hb hby at_121) hr) ?_
      refine Runs.by (fun _ hr => XS.iadd X23.here hx rfl (hb hby at_123) rfl hr) ?_
      refine Runs.by (fun _ hr => XS.bipush X23.here hx rfl (hb hby at_124) hr) ?_
      show Runs p e below _ (T23.setTop (mkF m 126 #[.val (.int p0), .val (.int p1), .val (.int p2), .val (.int p3), .val (.int p4), .val (.int fr), .val (.int tt), .val (.ref b2), .unset, .unset, .unset, .unset, .unset, .unset, .unset, .unset, .unset, .unset, .unset, .unset, .unset, .unset, .unset, .unset] [(.int (7 : Int32)), (.int (fr + (7 : Int32))), (.ref b2)]))
      refine Runs.by (fun _ hr => XS.iloadN X23.here hx rfl (hb hby at_126) rfl  hr) ?_
      rcases inv with ⟨rfl, rfl⟩ | ⟨rfl, rfl, LSl⟩ | ⟨rfl, rfl, LSu⟩ | ⟨rfl, rfl, LSl, LSu⟩
      · skip
        by_cases hbit7 : ((p2 >>> ((7 : Int32) &&& 31)) &&& (1 : Int32)) = (0 : Int32)
        · skip
          show Runs p e below _ (T23.setTop (mkF m 127 #[.val (.int p0), .val (.int p1), .val (.int p2), .val (.int p3), .val (.int p4), .val (.int fr), .val (.int tt), .val (.ref b2), .unset, .unset, .unset, .unset, .unset, .unset, .unset, .unset, .unset, .unset, .unset, .unset, .unset, .unset, .unset, .unset] [(.int p2), (.int (7 : Int32)), (.int (fr + (7 : Int32))), (.ref b2)]))
          obtain ⟨_, _, ⟨T143, L143, k143, n143⟩, -, X143, hSq143, hgq143, ⟨Lc143, hQ143, l143, y143, z143, hr143⟩, st143⟩ := callSS X23 hx (y := (⟨"com/example/word_odds/wordodds/filter/VerdictFieldBeginsPinLaw", "nameByte", "(II)B"⟩ : MethodName)) hown (mvT hZ (hw _ (List.mem_of_getElem? (i := 2) rfl))) (mvT hZ (hw _ (List.mem_of_getElem? (i := 3) rfl))) (mvT hZ (hw _ (List.mem_of_getElem? (i := 4) rfl))) (mvT hZ (hw _ (List.mem_of_getElem? (i := 5) rfl))) (by decide) (own_backX (W := 2) (PX := fun _ => True) (rm1_24c l Z a0 hw [] (7 : Int32) p2 gC vG (111 : Int32) (111 : Int32) b2 k2 (own_up wl6 (f + 6) (nar .byte nb6))  h23 n0 (Nat.le_trans Z0 K24.1) (SC.ext O_24.2) cC hvG (SG.ext O_24.2) hbit7 ⟨by decide, by decide⟩ rfl (by decide) (by decide) G23 hEL) hZ (hw _ (List.mem_of_getElem? (i := 5) rfl)) (hw _ (List.mem_of_getElem? (i := 4) rfl)) (by decide) (by decide) hEL hC.1 G23.lt Sf22_b2__K24 (fun _ _ => trivial)) (g := (mkF m 127 #[.val (.int p0), .val (.int p1), .val (.int p2), .val (.int p3), .val (.int p4), .val (.int fr), .val (.int tt), .val (.ref b2), .unset, .unset, .unset, .unset, .unset, .unset, .unset, .unset, .unset, .unset, .unset, .unset, .unset, .unset, .unset, .unset] [(.int p2), (.int (7 : Int32)), (.int (fr + (7 : Int32))), (.ref b2)])) rfl (by rw [hml]; rfl) (argsL := [(.int (7 : Int32)), (.int p2)]) (rest := [(.int (fr + (7 : Int32))), (.ref b2)]) (lenOf pd_11 rfl) rfl (by show 2 * 0 + _ ≤ _; exact Nat.le_of_eq rfl) (hb hby at_127) (fun _ _ => ⟨rfl, e23, (by decide : 1 + 2 ≤ _), (by decide : 24 + 48 ≤ _)⟩)
          dsimp only [Pt.U, Pt.locs, Pt.cells, Pt.slots] at X143 l143 y143 z143 st143 hQ143
          subst l143 y143 z143
          dsimp only [Pt.U, Pt.locs, Pt.cells, Pt.slots] at hSq143 hgq143 hr143
          obtain ⟨X143, hS, hZ, hown⟩ := rebS hS (by rw [e23]; exact hk) X143 hSq143 hgq143 hZ hown
          have hk := Nat.le_refl T143.heap.size
          have Sf22_b2__C143 := CHr.safe hr143 G23.lt Sf22_b2__K24
          have hC := hC.trans hr143
          obtain ⟨rfl, Nq143, Kq143, LSq143⟩ := hQ143
          have N143 := Fr.app N23 Nq143
          have K144 : Keep h0 T143.heap [] := Keep.trans (ws := []) K24 Kq143 all0
          have O_144 : Old Z n0 T143.heap := O_24.keep Kq143 all0
          refine Runs.by (fun _ hr => st143.trans hr) ?_
          exact JC7 nb0 nb1 nb2 nb3 nb4 nb5 nb6 (111 : Int32) _ _ (own_up wl6 (f + 6) (nar .byte nb6)) _ _ _ _ _ X143 rfl N143 K144 O_144 hC hS hk hZ hown (G23.keep Kq143 nin0) Sf22_b2__C143 hnb0 hnb1 hnb2 hnb3 hnb4 hnb5 hnb6 (by decide) (by rw [hwl6]) (Or.inr (Or.inl ⟨rfl, rfl, LSq143⟩))
        · skip
          show Runs p e below _ (T23.setTop (mkF m 127 #[.val (.int p0), .val (.int p1), .val (.int p2), .val (.int p3), .val (.int p4), .val (.int fr), .val (.int tt), .val (.ref b2), .unset, .unset, .unset, .unset, .unset, .unset, .unset, .unset, .unset, .unset, .unset, .unset, .unset, .unset, .unset, .unset] [(.int p2), (.int (7 : Int32)), (.int (fr + (7 : Int32))), (.ref b2)]))
          obtain ⟨_, _, ⟨T145, L145, k145, n145⟩, -, X145, hSq145, hgq145, ⟨Lc145, hQ145, l145, y145, z145, hr145⟩, st145⟩ := callSS X23 hx (y := (⟨"com/example/word_odds/wordodds/filter/VerdictFieldBeginsPinLaw", "nameByte", "(II)B"⟩ : MethodName)) hown (mvT hZ (hw _ (List.mem_of_getElem? (i := 2) rfl))) (mvT hZ (hw _ (List.mem_of_getElem? (i := 3) rfl))) (mvT hZ (hw _ (List.mem_of_getElem? (i := 4) rfl))) (mvT hZ (hw _ (List.mem_of_getElem? (i := 5) rfl))) (by decide) (own_backX (W := 2) (PX := fun _ => True) (rm1_32c l Z a0 hw [] (7 : Int32) p2 gC vG (79 : Int32) (79 : Int32) b2 k2 (own_up wl6 (f + 6) (nar .byte nb6))  h23 n0 (Nat.le_trans Z0 K24.1) (SC.ext O_24.2) cC hvG (SG.ext O_24.2) hbit7 ⟨by decide, by decide⟩ rfl (by decide) (by decide) G23 hEL) hZ (hw _ (List.mem_of_getElem? (i := 5) rfl)) (hw _ (List.mem_of_getElem? (i := 4) rfl)) (by decide) (by decide) hEL hC.1 G23.lt Sf22_b2__K24 (fun _ _ => trivial)) (g := (mkF m 127 #[.val (.int p0), .val (.int p1), .val (.int p2), .val (.int p3), .val (.int p4), .val (.int fr), .val (.int tt), .val (.ref b2), .unset, .unset, .unset, .unset, .unset, .unset, .unset, .unset, .unset, .unset, .unset, .unset, .unset, .unset, .unset, .unset] [(.int p2), (.int (7 : Int32)), (.int (fr + (7 : Int32))), (.ref b2)])) rfl (by rw [hml]; rfl) (argsL := [(.int (7 : Int32)), (.int p2)]) (rest := [(.int (fr + (7 : Int32))), (.ref b2)]) (lenOf pd_11 rfl) rfl (by show 2 * 0 + _ ≤ _; exact Nat.le_of_eq rfl) (hb hby at_127) (fun _ _ => ⟨rfl, e23, (by decide : 1 + 2 ≤ _), (by decide : 24 + 48 ≤ _)⟩)
          dsimp only [Pt.U, Pt.locs, Pt.cells, Pt.slots] at X145 l145 y145 z145 st145 hQ145
          subst l145 y145 z145
          dsimp only [Pt.U, Pt.locs, Pt.cells, Pt.slots] at hSq145 hgq145 hr145
          obtain ⟨X145, hS, hZ, hown⟩ := rebS hS (by rw [e23]; exact hk) X145 hSq145 hgq145 hZ hown
          have hk := Nat.le_refl T145.heap.size
          have Sf22_b2__C145 := CHr.safe hr145 G23.lt Sf22_b2__K24
          have hC := hC.trans hr145
          obtain ⟨rfl, Nq145, Kq145, LSq145⟩ := hQ145
          have N145 := Fr.app N23 Nq145
          have K146 : Keep h0 T145.heap [] := Keep.trans (ws := []) K24 Kq145 all0
          have O_146 : Old Z n0 T145.heap := O_24.keep Kq145 all0
          refine Runs.by (fun _ hr => st145.trans hr) ?_
          exact JC7 nb0 nb1 nb2 nb3 nb4 nb5 nb6 (79 : Int32) _ _ (own_up wl6 (f + 6) (nar .byte nb6)) _ _ _ _ _ X145 rfl N145 K146 O_146 hC hS hk hZ hown (G23.keep Kq145 nin0) Sf22_b2__C145 hnb0 hnb1 hnb2 hnb3 hnb4 hnb5 hnb6 (by decide) (by rw [hwl6]) (Or.inr (Or.inr (Or.inl ⟨rfl, rfl, LSq145⟩)))
      · skip
        by_cases hbit7 : ((p2 >>> ((7 : Int32) &&& 31)) &&& (1 : Int32)) = (0 : Int32)
        · skip
          obtain ⟨la, lb, lk, lLi, lfE, lfC, lfV, lfA, -, -⟩ := id LSl
          show Runs p e below _ (T23.setTop (mkF m 127 #[.val (.int p0), .val (.int p1), .val (.int p2), .val (.int p3), .val (.int p4), .val (.int fr), .val (.int tt), .val (.ref b2), .unset, .unset, .unset, .unset, .unset, .unset, .unset, .unset, .unset, .unset, .unset, .unset, .unset, .unset, .unset, .unset] [(.int p2), (.int (7 : Int32)), (.int (fr + (7 : Int32))), (.ref b2)]))
          obtain ⟨_, _, ⟨T147, L147, k147, n147⟩, -, X147, hSq147, hgq147, ⟨Lc147, hQ147, l147, y147, z147, hr147⟩, st147⟩ := callSS X23 hx (y := (⟨"com/example/word_odds/wordodds/filter/VerdictFieldBeginsPinLaw", "nameByte", "(II)B"⟩ : MethodName)) hown (mvT hZ (hw _ (List.mem_of_getElem? (i := 2) rfl))) (mvT hZ (hw _ (List.mem_of_getElem? (i := 3) rfl))) (mvT hZ (hw _ (List.mem_of_getElem? (i := 4) rfl))) (mvT hZ (hw _ (List.mem_of_getElem? (i := 5) rfl))) (by decide) (own_backX (W := 2) (PX := fun vm_ => Lit (Z.setVm vm_) "com/example/word_odds/wordodds/filter/VerdictFieldBeginsPinLaw" 24 la) (rm1_24w l Z a0 hw [] (7 : Int32) p2 gC vG (111 : Int32) (111 : Int32) b2 k2 (own_up wl6 (f + 6) (nar .byte nb6)) la lb lk  h23 n0 (Nat.le_trans Z0 K24.1) (SC.ext O_24.2) cC hvG (SG.ext O_24.2) hbit7 ⟨by decide, by decide⟩ rfl (by decide) (by decide) G23 lfE lfC lfV lfA hEL) hZ (hw _ (List.mem_of_getElem? (i := 5) rfl)) (hw _ (List.mem_of_getElem? (i := 4) rfl)) (by decide) (by decide) hEL hC.1 G23.lt Sf22_b2__K24 (fun _ q => own_lstay (s := s) lLi q)) (g := (mkF m 127 #[.val (.int p0), .val (.int p1), .val (.int p2), .val (.int p3), .val (.int p4), .val (.int fr), .val (.int tt), .val (.ref b2), .unset, .unset, .unset, .unset, .unset, .unset, .unset, .unset, .unset, .unset, .unset, .unset, .unset, .unset, .unset, .unset] [(.int p2), (.int (7 : Int32)), (.int (fr + (7 : Int32))), (.ref b2)])) rfl (by rw [hml]; rfl) (argsL := [(.int (7 : Int32)), (.int p2)]) (rest := [(.int (fr + (7 : Int32))), (.ref b2)]) (lenOf pd_11 rfl) rfl (by show 2 * 0 + _ ≤ _; exact Nat.le_of_eq rfl) (hb hby at_127) (fun _ _ => ⟨rfl, e23, (by decide : 3 + 0 ≤ _), (by decide : 72 + 0 ≤ _)⟩)
          dsimp only [Pt.U, Pt.locs, Pt.cells, Pt.slots] at X147 l147 y147 z147 st147 hQ147
          subst l147 y147 z147
          dsimp only [Pt.U, Pt.locs, Pt.cells, Pt.slots] at hSq147 hgq147 hr147
          obtain ⟨X147, hS, hZ, hown⟩ := rebS hS (by rw [e23]; exact hk) X147 hSq147 hgq147 hZ hown
          have hk := Nat.le_refl T147.heap.size
          have Sf22_b2__C147 := CHr.safe hr147 G23.lt Sf22_b2__K24
          have hC := hC.trans hr147
          obtain ⟨rfl, Nq147, Kq147⟩ := hQ147
          have N147 := Fr.app N23 Nq147
          have K148 : Keep h0 T147.heap [] := Keep.trans (ws := []) K24 Kq147 all0
          have O_148 : Old Z n0 T147.heap := O_24.keep Kq147 all0
          refine Runs.by (fun _ hr => st147.trans hr) ?_
          exact JC7 nb0 nb1 nb2 nb3 nb4 nb5 nb6 (111 : Int32) _ _ (own_up wl6 (f + 6) (nar .byte nb6)) _ _ _ _ _ X147 rfl N147 K148 O_148 hC hS hk hZ hown (G23.keep Kq147 nin0) Sf22_b2__C147 hnb0 hnb1 hnb2 hnb3 hnb4 hnb5 hnb6 (by decide) (by rw [hwl6]) (Or.inr (Or.inl ⟨rfl, rfl, (LSl.step hSq147.1 Kq147)⟩))
        · skip
          show Runs p e below _ (T23.setTop (mkF m 127 #[.val (.int p0), .val (.int p1), .val (.int p2), .val (.int p3), .val (.int p4), .val (.int fr), .val (.int tt), .val (.ref b2), .unset, .unset, .unset, .unset, .unset, .unset, .unset, .unset, .unset, .unset, .unset, .unset, .unset, .unset, .unset, .unset] [(.int p2), (.int (7 : Int32)), (.int (fr + (7 : Int32))), (.ref b2)]))
          obtain ⟨_, _, ⟨T149, L149, k149, n149⟩, -, X149, hSq149, hgq149, ⟨Lc149, hQ149, l149, y149, z149, hr149⟩, st149⟩ := callSS X23 hx (y := (⟨"com/example/word_odds/wordodds/filter/VerdictFieldBeginsPinLaw", "nameByte", "(II)B"⟩ : MethodName)) hown (mvT hZ (hw _ (List.mem_of_getElem? (i := 2) rfl))) (mvT hZ (hw _ (List.mem_of_getElem? (i := 3) rfl))) (mvT hZ (hw _ (List.mem_of_getElem? (i := 4) rfl))) (mvT hZ (hw _ (List.mem_of_getElem? (i := 5) rfl))) (by decide) (own_backX (W := 2) (PX := fun _ => True) (rm1_32c l Z a0 hw [] (7 : Int32) p2 gC vG (79 : Int32) (79 : Int32) b2 k2 (own_up wl6 (f + 6) (nar .byte nb6))  h23 n0 (Nat.le_trans Z0 K24.1) (SC.ext O_24.2) cC hvG (SG.ext O_24.2) hbit7 ⟨by decide, by decide⟩ rfl (by decide) (by decide) G23 hEL) hZ (hw _ (List.mem_of_getElem? (i := 5) rfl)) (hw _ (List.mem_of_getElem? (i := 4) rfl)) (by decide) (by decide) hEL hC.1 G23.lt Sf22_b2__K24 (fun _ _ => trivial)) (g := (mkF m 127 #[.val (.int p0), .val (.int p1), .val (.int p2), .val (.int p3), .val (.int p4), .val (.int fr), .val (.int tt), .val (.ref b2), .unset, .unset, .unset, .unset, .unset, .unset, .unset, .unset, .unset, .unset, .unset, .unset, .unset, .unset, .unset, .unset] [(.int p2), (.int (7 : Int32)), (.int (fr + (7 : Int32))), (.ref b2)])) rfl (by rw [hml]; rfl) (argsL := [(.int (7 : Int32)), (.int p2)]) (rest := [(.int (fr + (7 : Int32))), (.ref b2)]) (lenOf pd_11 rfl) rfl (by show 2 * 0 + _ ≤ _; exact Nat.le_of_eq rfl) (hb hby at_127) (fun _ _ => ⟨rfl, e23, (by decide : 3 + 2 ≤ _), (by decide : 72 + 48 ≤ _)⟩)
          dsimp only [Pt.U, Pt.locs, Pt.cells, Pt.slots] at X149 l149 y149 z149 st149 hQ149
          subst l149 y149 z149
          dsimp only [Pt.U, Pt.locs, Pt.cells, Pt.slots] at hSq149 hgq149 hr149
          obtain ⟨X149, hS, hZ, hown⟩ := rebS hS (by rw [e23]; exact hk) X149 hSq149 hgq149 hZ hown
          have hk := Nat.le_refl T149.heap.size
          have Sf22_b2__C149 := CHr.safe hr149 G23.lt Sf22_b2__K24
          have hC := hC.trans hr149
          obtain ⟨rfl, Nq149, Kq149, LSq149⟩ := hQ149
          have N149 := Fr.app N23 Nq149
          have K150 : Keep h0 T149.heap [] := Keep.trans (ws := []) K24 Kq149 all0
          have O_150 : Old Z n0 T149.heap := O_24.keep Kq149 all0
          refine Runs.by (fun _ hr => st149.trans hr) ?_
          exact JC7 nb0 nb1 nb2 nb3 nb4 nb5 nb6 (79 : Int32) _ _ (own_up wl6 (f + 6) (nar .byte nb6)) _ _ _ _ _ X149 rfl N149 K150 O_150 hC hS hk hZ hown (G23.keep Kq149 nin0) Sf22_b2__C149 hnb0 hnb1 hnb2 hnb3 hnb4 hnb5 hnb6 (by decide) (by rw [hwl6]) (Or.inr (Or.inr (Or.inr ⟨rfl, rfl, (LSl.step hSq149.1 Kq149), LSq149⟩)))
      · skip
        by_cases hbit7 : ((p2 >>> ((7 : Int32) &&& 31)) &&& (1 : Int32)) = (0 : Int32)
        · skip
          show Runs p e below _ (T23.setTop (mkF m 127 #[.val (.int p0), .val (.int p1), .val (.int p2), .val (.int p3), .val (.int p4), .val (.int fr), .val (.int tt), .val (.ref b2), .unset, .unset, .unset, .unset, .unset, .unset, .unset, .unset, .unset, .unset, .unset, .unset, .unset, .unset, .unset, .unset] [(.int p2), (.int (7 : Int32)), (.int (fr + (7 : Int32))), (.ref b2)]))
          obtain ⟨_, _, ⟨T151, L151, k151, n151⟩, -, X151, hSq151, hgq151, ⟨Lc151, hQ151, l151, y151, z151, hr151⟩, st151⟩ := callSS X23 hx (y := (⟨"com/example/word_odds/wordodds/filter/VerdictFieldBeginsPinLaw", "nameByte", "(II)B"⟩ : MethodName)) hown (mvT hZ (hw _ (List.mem_of_getElem? (i := 2) rfl))) (mvT hZ (hw _ (List.mem_of_getElem? (i := 3) rfl))) (mvT hZ (hw _ (List.mem_of_getElem? (i := 4) rfl))) (mvT hZ (hw _ (List.mem_of_getElem? (i := 5) rfl))) (by decide) (own_backX (W := 2) (PX := fun _ => True) (rm1_24c l Z a0 hw [] (7 : Int32) p2 gC vG (111 : Int32) (111 : Int32) b2 k2 (own_up wl6 (f + 6) (nar .byte nb6))  h23 n0 (Nat.le_trans Z0 K24.1) (SC.ext O_24.2) cC hvG (SG.ext O_24.2) hbit7 ⟨by decide, by decide⟩ rfl (by decide) (by decide) G23 hEL) hZ (hw _ (List.mem_of_getElem? (i := 5) rfl)) (hw _ (List.mem_of_getElem? (i := 4) rfl)) (by decide) (by decide) hEL hC.1 G23.lt Sf22_b2__K24 (fun _ _ => trivial)) (g := (mkF m 127 #[.val (.int p0), .val (.int p1), .val (.int p2), .val (.int p3), .val (.int p4), .val (.int fr), .val (.int tt), .val (.ref b2), .unset, .unset, .unset, .unset, .unset, .unset, .unset, .unset, .unset, .unset, .unset, .unset, .unset, .unset, .unset, .unset] [(.int p2), (.int (7 : Int32)), (.int (fr + (7 : Int32))), (.ref b2)])) rfl (by rw [hml]; rfl) (argsL := [(.int (7 : Int32)), (.int p2)]) (rest := [(.int (fr + (7 : Int32))), (.ref b2)]) (lenOf pd_11 rfl) rfl (by show 2 * 0 + _ ≤ _; exact Nat.le_of_eq rfl) (hb hby at_127) (fun _ _ => ⟨rfl, e23, (by decide : 3 + 2 ≤ _), (by decide : 72 + 48 ≤ _)⟩)
          dsimp only [Pt.U, Pt.locs, Pt.cells, Pt.slots] at X151 l151 y151 z151 st151 hQ151
          subst l151 y151 z151
          dsimp only [Pt.U, Pt.locs, Pt.cells, Pt.slots] at hSq151 hgq151 hr151
          obtain ⟨X151, hS, hZ, hown⟩ := rebS hS (by rw [e23]; exact hk) X151 hSq151 hgq151 hZ hown
          have hk := Nat.le_refl T151.heap.size
          have Sf22_b2__C151 := CHr.safe hr151 G23.lt Sf22_b2__K24
          have hC := hC.trans hr151
          obtain ⟨rfl, Nq151, Kq151, LSq151⟩ := hQ151
          have N151 := Fr.app N23 Nq151
          have K152 : Keep h0 T151.heap [] := Keep.trans (ws := []) K24 Kq151 all0
          have O_152 : Old Z n0 T151.heap := O_24.keep Kq151 all0
          refine Runs.by (fun _ hr => st151.trans hr) ?_
          exact JC7 nb0 nb1 nb2 nb3 nb4 nb5 nb6 (111 : Int32) _ _ (own_up wl6 (f + 6) (nar .byte nb6)) _ _ _ _ _ X151 rfl N151 K152 O_152 hC hS hk hZ hown (G23.keep Kq151 nin0) Sf22_b2__C151 hnb0 hnb1 hnb2 hnb3 hnb4 hnb5 hnb6 (by decide) (by rw [hwl6]) (Or.inr (Or.inr (Or.inr ⟨rfl, rfl, LSq151, (LSu.step hSq151.1 Kq151)⟩)))
        · skip
          obtain ⟨la, lb, lk, lLi, lfE, lfC, lfV, lfA, -, -⟩ := id LSu
          show Runs p e below _ (T23.setTop (mkF m 127 #[.val (.int p0), .val (.int p1), .val (.int p2), .val (.int p3), .val (.int p4), .val (.int fr), .val (.int tt), .val (.ref b2), .unset, .unset, .unset, .unset, .unset, .unset, .unset, .unset, .unset, .unset, .unset, .unset, .unset, .unset, .unset, .unset] [(.int p2), (.int (7 : Int32)), (.int (fr + (7 : Int32))), (.ref b2)]))
          obtain ⟨_, _, ⟨T153, L153, k153, n153⟩, -, X153, hSq153, hgq153, ⟨Lc153, hQ153, l153, y153, z153, hr153⟩, st153⟩ := callSS X23 hx (y := (⟨"com/example/word_odds/wordodds/filter/VerdictFieldBeginsPinLaw", "nameByte", "(II)B"⟩ : MethodName)) hown (mvT hZ (hw _ (List.mem_of_getElem? (i := 2) rfl))) (mvT hZ (hw _ (List.mem_of_getElem? (i := 3) rfl))) (mvT hZ (hw _ (List.mem_of_getElem? (i := 4) rfl))) (mvT hZ (hw _ (List.mem_of_getElem? (i := 5) rfl))) (by decide) (own_backX (W := 2) (PX := fun vm_ => Lit (Z.setVm vm_) "com/example/word_odds/wordodds/filter/VerdictFieldBeginsPinLaw" 32 la) (rm1_32w l Z a0 hw [] (7 : Int32) p2 gC vG (79 : Int32) (79 : Int32) b2 k2 (own_up wl6 (f + 6) (nar .byte nb6)) la lb lk  h23 n0 (Nat.le_trans Z0 K24.1) (SC.ext O_24.2) cC hvG (SG.ext O_24.2) hbit7 ⟨by decide, by decide⟩ rfl (by decide) (by decide) G23 lfE lfC lfV lfA hEL) hZ (hw _ (List.mem_of_getElem? (i := 5) rfl)) (hw _ (List.mem_of_getElem? (i := 4) rfl)) (by decide) (by decide) hEL hC.1 G23.lt Sf22_b2__K24 (fun _ q => own_lstay (s := s) lLi q)) (g := (mkF m 127 #[.val (.int p0), .val (.int p1), .val (.int p2), .val (.int p3), .val (.int p4), .val (.int fr), .val (.int tt), .val (.ref b2), .unset, .unset, .unset, .unset, .unset, .unset, .unset, .unset, .unset, .unset, .unset, .unset, .unset, .unset, .unset, .unset] [(.int p2), (.int (7 : Int32)), (.int (fr + (7 : Int32))), (.ref b2)])) rfl (by rw [hml]; rfl) (argsL := [(.int (7 : Int32)), (.int p2)]) (rest := [(.int (fr + (7 : Int32))), (.ref b2)]) (lenOf pd_11 rfl) rfl (by show 2 * 0 + _ ≤ _; exact Nat.le_of_eq rfl) (hb hby at_127) (fun _ _ => ⟨rfl, e23, (by decide : 3 + 0 ≤ _), (by decide : 72 + 0 ≤ _)⟩)
          dsimp only [Pt.U, Pt.locs, Pt.cells, Pt.slots] at X153 l153 y153 z153 st153 hQ153
          subst l153 y153 z153
          dsimp only [Pt.U, Pt.locs, Pt.cells, Pt.slots] at hSq153 hgq153 hr153
          obtain ⟨X153, hS, hZ, hown⟩ := rebS hS (by rw [e23]; exact hk) X153 hSq153 hgq153 hZ hown
          have hk := Nat.le_refl T153.heap.size
          have Sf22_b2__C153 := CHr.safe hr153 G23.lt Sf22_b2__K24
          have hC := hC.trans hr153
          obtain ⟨rfl, Nq153, Kq153⟩ := hQ153
          have N153 := Fr.app N23 Nq153
          have K154 : Keep h0 T153.heap [] := Keep.trans (ws := []) K24 Kq153 all0
          have O_154 : Old Z n0 T153.heap := O_24.keep Kq153 all0
          refine Runs.by (fun _ hr => st153.trans hr) ?_
          exact JC7 nb0 nb1 nb2 nb3 nb4 nb5 nb6 (79 : Int32) _ _ (own_up wl6 (f + 6) (nar .byte nb6)) _ _ _ _ _ X153 rfl N153 K154 O_154 hC hS hk hZ hown (G23.keep Kq153 nin0) Sf22_b2__C153 hnb0 hnb1 hnb2 hnb3 hnb4 hnb5 hnb6 (by decide) (by rw [hwl6]) (Or.inr (Or.inr (Or.inl ⟨rfl, rfl, (LSu.step hSq153.1 Kq153)⟩)))
      · skip
        by_cases hbit7 : ((p2 >>> ((7 : Int32) &&& 31)) &&& (1 : Int32)) = (0 : Int32)
        · skip
          obtain ⟨la, lb, lk, lLi, lfE, lfC, lfV, lfA, -, -⟩ := id LSl
          show Runs p e below _ (T23.setTop (mkF m 127 #[.val (.int p0), .val (.int p1), .val (.int p2), .val (.int p3), .val (.int p4), .val (.int fr), .val (.int tt), .val (.ref b2), .unset, .unset, .unset, .unset, .unset, .unset, .unset, .unset, .unset, .unset, .unset, .unset, .unset, .unset, .unset, .unset] [(.int p2), (.int (7 : Int32)), (.int (fr + (7 : Int32))), (.ref b2)]))
          obtain ⟨_, _, ⟨T155, L155, k155, n155⟩, -, X155, hSq155, hgq155, ⟨Lc155, hQ155, l155, y155, z155, hr155⟩, st155⟩ := callSS X23 hx (y := (⟨"com/example/word_odds/wordodds/filter/VerdictFieldBeginsPinLaw", "nameByte", "(II)B"⟩ : MethodName)) hown (mvT hZ (hw _ (List.mem_of_getElem? (i := 2) rfl))) (mvT hZ (hw _ (List.mem_of_getElem? (i := 3) rfl))) (mvT hZ (hw _ (List.mem_of_getElem? (i := 4) rfl))) (mvT hZ (hw _ (List.mem_of_getElem? (i := 5) rfl))) (by decide) (own_backX (W := 2) (PX := fun vm_ => Lit (Z.setVm vm_) "com/example/word_odds/wordodds/filter/VerdictFieldBeginsPinLaw" 24 la) (rm1_24w l Z a0 hw [] (7 : Int32) p2 gC vG (111 : Int32) (111 : Int32) b2 k2 (own_up wl6 (f + 6) (nar .byte nb6)) la lb lk  h23 n0 (Nat.le_trans Z0 K24.1) (SC.ext O_24.2) cC hvG (SG.ext O_24.2) hbit7 ⟨by decide, by decide⟩ rfl (by decide) (by decide) G23 lfE lfC lfV lfA hEL) hZ (hw _ (List.mem_of_getElem? (i := 5) rfl)) (hw _ (List.mem_of_getElem? (i := 4) rfl)) (by decide) (by decide) hEL hC.1 G23.lt Sf22_b2__K24 (fun _ q => own_lstay (s := s) lLi q)) (g := (mkF m 127 #[.val (.int p0), .val (.int p1), .val (.int p2), .val (.int p3), .val (.int p4), .val (.int fr), .val (.int tt), .val (.ref b2), .unset, .unset, .unset, .unset, .unset, .unset, .unset, .unset, .unset, .unset, .unset, .unset, .unset, .unset, .unset, .unset] [(.int p2), (.int (7 : Int32)), (.int (fr + (7 : Int32))), (.ref b2)])) rfl (by rw [hml]; rfl) (argsL := [(.int (7 : Int32)), (.int p2)]) (rest := [(.int (fr + (7 : Int32))), (.ref b2)]) (lenOf pd_11 rfl) rfl (by show 2 * 0 + _ ≤ _; exact Nat.le_of_eq rfl) (hb hby at_127) (fun _ _ => ⟨rfl, e23, (by decide : 5 + 0 ≤ _), (by decide : 120 + 0 ≤ _)⟩)
          dsimp only [Pt.U, Pt.locs, Pt.cells, Pt.slots] at X155 l155 y155 z155 st155 hQ155
          subst l155 y155 z155
          dsimp only [Pt.U, Pt.locs, Pt.cells, Pt.slots] at hSq155 hgq155 hr155
          obtain ⟨X155, hS, hZ, hown⟩ := rebS hS (by rw [e23]; exact hk) X155 hSq155 hgq155 hZ hown
          have hk := Nat.le_refl T155.heap.size
          have Sf22_b2__C155 := CHr.safe hr155 G23.lt Sf22_b2__K24
          have hC := hC.trans hr155
          obtain ⟨rfl, Nq155, Kq155⟩ := hQ155
          have N155 := Fr.app N23 Nq155
          have K156 : Keep h0 T155.heap [] := Keep.trans (ws := []) K24 Kq155 all0
          have O_156 : Old Z n0 T155.heap := O_24.keep Kq155 all0
          refine Runs.by (fun _ hr => st155.trans hr) ?_
          exact JC7 nb0 nb1 nb2 nb3 nb4 nb5 nb6 (111 : Int32) _ _ (own_up wl6 (f + 6) (nar .byte nb6)) _ _ _ _ _ X155 rfl N155 K156 O_156 hC hS hk hZ hown (G23.keep Kq155 nin0) Sf22_b2__C155 hnb0 hnb1 hnb2 hnb3 hnb4 hnb5 hnb6 (by decide) (by rw [hwl6]) (Or.inr (Or.inr (Or.inr ⟨rfl, rfl, (LSl.step hSq155.1 Kq155), (LSu.step hSq155.1 Kq155)⟩)))
        · skip
          obtain ⟨la, lb, lk, lLi, lfE, lfC, lfV, lfA, -, -⟩ := id LSu
          show Runs p e below _ (T23.setTop (mkF m 127 #[.val (.int p0), .val (.int p1), .val (.int p2), .val (.int p3), .val (.int p4), .val (.int fr), .val (.int tt), .val (.ref b2), .unset, .unset, .unset, .unset, .unset, .unset, .unset, .unset, .unset, .unset, .unset, .unset, .unset, .unset, .unset, .unset] [(.int p2), (.int (7 : Int32)), (.int (fr + (7 : Int32))), (.ref b2)]))
          obtain ⟨_, _, ⟨T157, L157, k157, n157⟩, -, X157, hSq157, hgq157, ⟨Lc157, hQ157, l157, y157, z157, hr157⟩, st157⟩ := callSS X23 hx (y := (⟨"com/example/word_odds/wordodds/filter/VerdictFieldBeginsPinLaw", "nameByte", "(II)B"⟩ : MethodName)) hown (mvT hZ (hw _ (List.mem_of_getElem? (i := 2) rfl))) (mvT hZ (hw _ (List.mem_of_getElem? (i := 3) rfl))) (mvT hZ (hw _ (List.mem_of_getElem? (i := 4) rfl))) (mvT hZ (hw _ (List.mem_of_getElem? (i := 5) rfl))) (by decide) (own_backX (W := 2) (PX := fun vm_ => Lit (Z.setVm vm_) "com/example/word_odds/wordodds/filter/VerdictFieldBeginsPinLaw" 32 la) (rm1_32w l Z a0 hw [] (7 : Int32) p2 gC vG (79 : Int32) (79 : Int32) b2 k2 (own_up wl6 (f + 6) (nar .byte nb6)) la lb lk  h23 n0 (Nat.le_trans Z0 K24.1) (SC.ext O_24.2) cC hvG (SG.ext O_24.2) hbit7 ⟨by decide, by decide⟩ rfl (by decide) (by decide) G23 lfE lfC lfV lfA hEL) hZ (hw _ (List.mem_of_getElem? (i := 5) rfl)) (hw _ (List.mem_of_getElem? (i := 4) rfl)) (by decide) (by decide) hEL hC.1 G23.lt Sf22_b2__K24 (fun _ q => own_lstay (s := s) lLi q)) (g := (mkF m 127 #[.val (.int p0), .val (.int p1), .val (.int p2), .val (.int p3), .val (.int p4), .val (.int fr), .val (.int tt), .val (.ref b2), .unset, .unset, .unset, .unset, .unset, .unset, .unset, .unset, .unset, .unset, .unset, .unset, .unset, .unset, .unset, .unset] [(.int p2), (.int (7 : Int32)), (.int (fr + (7 : Int32))), (.ref b2)])) rfl (by rw [hml]; rfl) (argsL := [(.int (7 : Int32)), (.int p2)]) (rest := [(.int (fr + (7 : Int32))), (.ref b2)]) (lenOf pd_11 rfl) rfl (by show 2 * 0 + _ ≤ _; exact Nat.le_of_eq rfl) (hb hby at_127) (fun _ _ => ⟨rfl, e23, (by decide : 5 + 0 ≤ _), (by decide : 120 + 0 ≤ _)⟩)
          dsimp only [Pt.U, Pt.locs, Pt.cells, Pt.slots] at X157 l157 y157 z157 st157 hQ157
          subst l157 y157 z157
          dsimp only [Pt.U, Pt.locs, Pt.cells, Pt.slots] at hSq157 hgq157 hr157
          obtain ⟨X157, hS, hZ, hown⟩ := rebS hS (by rw [e23]; exact hk) X157 hSq157 hgq157 hZ hown
          have hk := Nat.le_refl T157.heap.size
          have Sf22_b2__C157 := CHr.safe hr157 G23.lt Sf22_b2__K24
          have hC := hC.trans hr157
          obtain ⟨rfl, Nq157, Kq157⟩ := hQ157
          have N157 := Fr.app N23 Nq157
          have K158 : Keep h0 T157.heap [] := Keep.trans (ws := []) K24 Kq157 all0
          have O_158 : Old Z n0 T157.heap := O_24.keep Kq157 all0
          refine Runs.by (fun _ hr => st157.trans hr) ?_
          exact JC7 nb0 nb1 nb2 nb3 nb4 nb5 nb6 (79 : Int32) _ _ (own_up wl6 (f + 6) (nar .byte nb6)) _ _ _ _ _ X157 rfl N157 K158 O_158 hC hS hk hZ hown (G23.keep Kq157 nin0) Sf22_b2__C157 hnb0 hnb1 hnb2 hnb3 hnb4 hnb5 hnb6 (by decide) (by rw [hwl6]) (Or.inr (Or.inr (Or.inr ⟨rfl, rfl, (LSl.step hSq157.1 Kq157), (LSu.step hSq157.1 Kq157)⟩)))
    have JC5 : ∀ (nb0 nb1 nb2 nb3 nb4 nb5 : Int32) (cJ5 sJ5 : Nat) (wl5 : Nat → Int32) (TJ19 : State) (hJ19 : Heap) (lJ19 : List Loc) (vJ19 : Vm) (kJ19 : Nat) (XJ19 : Stand p l e room_1 (s.setVm vJ19) m #[(.int p0), (.int p1), (.int p2), (.int p3), (.int p4)] below meth c TJ19 lJ19 cJ5 sJ5) (eJ19 : TJ19.heap = hJ19) (NJ19 : Fr n0 lJ19) (KJ19 : Keep h0 hJ19 []) (OJ19 : Old Z n0 hJ19) (hCJ19 : CHr Z consts_1 s.vm s.heap vJ19 hJ19) (hSJ19 : s.Since vJ19 kJ19) (hkJ19 : kJ19 ≤ hJ19.size) (hZJ19 : Z.Warmed39 vJ19) (hoJ19 : vJ19.findClass "com/example/word_odds/wordodds/filter/VerdictFieldBeginsPinLaw" = some m.cls) (fJ19_0 : Arf Z hJ19 b2 k2 .byte (24 : Int32) (fun j_ => .int (wl5 j_))) (Sf19_b2 : Safe Z consts_1 vJ19 hJ19 b2) (hnb0 : own_lc (nar .byte nb0) = (120 : Int32)) (hnb1 : own_lc (nar .byte nb1) = (45 : Int32)) (hnb2 : own_lc (nar .byte nb2) = (119 : Int32)) (hnb3 : own_lc (nar .byte nb3) = (111 : Int32)) (hnb4 : own_lc (nar .byte nb4) = (114 : Int32)) (hnb5 : own_lc (nar .byte nb5) = (100 : Int32)) (hwl5 : wl5 = (own_up (own_up (own_up (own_up (own_up (fun _ => (0 : Int32)) (f + 0) (nar .byte nb0)) (f + 1) (nar .byte nb1)) (f + 2) (nar .byte nb2)) (f + 3) (nar .byte nb3)) (f + 4) (nar .byte nb4))) (inv : own_inv Z vJ19 hJ19 b2 cJ5 sJ5), Runs p e below (QEW Z consts_1 s (Q_rm0 Z p0 p1 p2 p3 p4 gC vG lo ko h0 n0) room_1.cells room_1.slots) (TJ19.setTop (mkF m 102 #[.val (.int p0), .val (.int p1), .val (.int p2), .val (.int p3), .val (.int p4), .val (.int fr), .val (.int tt), .val (.ref b2), .unset, .unset, .unset, .unset, .unset, .unset, .unset, .unset, .unset, .unset, .unset, .unset, .unset, .unset, .unset, .unset] [(.int nb5), (.int (fr + (5 : Int32))), (.ref b2)])) := by
      intro nb0 nb1 nb2 nb3 nb4 nb5 cJ5 sJ5 wl5 TJ19 hJ19 lJ19 vJ19 kJ19 XJ19 eJ19 NJ19 KJ19 OJ19 hC hS hk hZ hown fJ19_0 Sf19_b2 hnb0 hnb1 hnb2 hnb3 hnb4 hnb5 hwl5 inv
      clear JC7 JC8 JC9 JC10
      show Runs p e below _ (TJ19.setTop (mkF m 102 #[.val (.int p0), .val (.int p1), .val (.int p2), .val (.int p3), .val (.int p4), .val (.int fr), .val (.int tt), .val (.ref b2), .unset, .unset, .unset, .unset, .unset, .unset, .unset, .unset, .unset, .unset, .unset, .unset, .unset, .unset, .unset, .unset] [(.int nb5), (.int (fr + (5 : Int32))), (.ref b2)]))
      obtain ⟨cl20, Ar20, q20, S20, N20', H20⟩ := id fJ19_0
      have ix20 := own_ix (j := (fr + (5 : Int32))) (z := (24 : Int32)) (n := f + 5) (own_ad hf h3 (n := 5) (by decide) (by decide)) (own_ad24 hf h3 (n := 5) (by decide) (by decide))
      have hin20 : ¬ ((fr + (5 : Int32)) < 0 ∨ cl20.slots.size ≤ ((fr + (5 : Int32))).toNatClampNeg) := inb_of S20 ix20.1
      obtain ⟨T20, h20, X20, e20, W20, st20⟩ := stB XJ19 hx hZ eJ19 Ar20 (j := (fr + (5 : Int32))) hin20 (g := (mkF m 102 #[.val (.int p0), .val (.int p1), .val (.int p2), .val (.int p3), .val (.int p4), .val (.int fr), .val (.int tt), .val (.ref b2), .unset, .unset, .unset, .unset, .unset, .unset, .unset, .unset, .unset, .unset, .unset, .unset, .unset, .unset, .unset, .unset] [(.int nb5), (.int (fr + (5 : Int32))), (.ref b2)])) rfl rfl (hb hby at_102)
      have G20 : Arf Z h20 b2 k2 .byte (24 : Int32) (fun j_ => .int ((own_up wl5 (f + 5) (nar .byte nb5)) j_)) := (Arf.set Ar20 q20 S20 N20' H20 W20 ix20.2.1).cast (fun j_ _ => own_up_map Value.int _ _ _ j_)
      have K21 : Keep h0 h20 [] := KJ19.wr W20 (Or.inr sz_b2)
      have O_21 : Old Z n0 h20 := OJ19.wr W20 g_b2
      have Sf19_b2__K21 := Safe.wr W20 Sf19_b2 hC.1 Sf19_b2
      have hk : _ ≤ h20.size := Nat.le_trans hk (Keep.of_wr W20).1
      have hC := hC.trans (CHr.wr W20 Sf19_b2 hC.1)
      have inv := inv.wr W20
      have N20 := Fr.snoc X20 NJ19 g_b2
      refine Runs.by st20 ?_
      refine Runs.by (fun _ hr => XS.aload X20.here hx rfl (hb hby at_103) rfl rfl hr) ?_
      refine Runs.by (fun _ hr => XS.iload X20.here hx rfl (hb hby at_105) rfl  hr) ?_
      show Runs p e below _ (T20.setTop (mkF m 107 #[.val (.int p0), .val (.int p1), .val (.int p2), .val (.int p3), .val (.int p4), .val (.int fr), .val (.int tt), .val (.ref b2), .unset, .unset, .unset, .unset, .unset, .unset, .unset, .unset, .unset, .unset, .unset, .unset, .unset, .unset, .unset, .unset] [(.int fr), (.ref b2)]))
      refine Runs.by (fun _ hr => XS.bipush X20.here hx rfl (hb hby at_107) hr) ?_
      refine Runs.by (fun _ hr => XS.iadd X20.here hx rfl (hb hby at_109) rfl hr) ?_
      refine Runs.by (fun _ hr => XS.bipush X20.here hx rfl (hb hby at_110) hr) ?_
      show Runs p e below _ (T20.setTop (mkF m 112 #[.val (.int p0), .val (.int p1), .val (.int p2), .val (.int p3), .val (.int p4), .val (.int fr), .val (.int tt), .val (.ref b2), .unset, .unset, .unset, .unset, .unset, .unset, .unset, .unset, .unset, .unset, .unset, .unset, .unset, .unset, .unset, .unset] [(.int (6 : Int32)), (.int (fr + (6 : Int32))), (.ref b2)]))
      refine Runs.by (fun _ hr => XS.iloadN X20.here hx rfl (hb hby at_112) rfl  hr) ?_
      rcases inv with ⟨rfl, rfl⟩ | ⟨rfl, rfl, LSl⟩ | ⟨rfl, rfl, LSu⟩ | ⟨rfl, rfl, LSl, LSu⟩
      · skip
        by_cases hbit6 : ((p2 >>> ((6 : Int32) &&& 31)) &&& (1 : Int32)) = (0 : Int32)
        · skip
          show Runs p e below _ (T20.setTop (mkF m 113 #[.val (.int p0), .val (.int p1), .val (.int p2), .val (.int p3), .val (.int p4), .val (.int fr), .val (.int tt), .val (.ref b2), .unset, .unset, .unset, .unset, .unset, .unset, .unset, .unset, .unset, .unset, .unset, .unset, .unset, .unset, .unset, .unset] [(.int p2), (.int (6 : Int32)), (.int (fr + (6 : Int32))), (.ref b2)]))
          obtain ⟨_, _, ⟨T159, L159, k159, n159⟩, -, X159, hSq159, hgq159, ⟨Lc159, hQ159, l159, y159, z159, hr159⟩, st159⟩ := callSS X20 hx (y := (⟨"com/example/word_odds/wordodds/filter/VerdictFieldBeginsPinLaw", "nameByte", "(II)B"⟩ : MethodName)) hown (mvT hZ (hw _ (List.mem_of_getElem? (i := 2) rfl))) (mvT hZ (hw _ (List.mem_of_getElem? (i := 3) rfl))) (mvT hZ (hw _ (List.mem_of_getElem? (i := 4) rfl))) (mvT hZ (hw _ (List.mem_of_getElem? (i := 5) rfl))) (by decide) (own_backX (W := 2) (PX := fun _ => True) (rm1_24c l Z a0 hw [] (6 : Int32) p2 gC vG (45 : Int32) (45 : Int32) b2 k2 (own_up wl5 (f + 5) (nar .byte nb5))  h20 n0 (Nat.le_trans Z0 K21.1) (SC.ext O_21.2) cC hvG (SG.ext O_21.2) hbit6 ⟨by decide, by decide⟩ rfl (by decide) (by decide) G20 hEL) hZ (hw _ (List.mem_of_getElem? (i := 5) rfl)) (hw _ (List.mem_of_getElem? (i := 4) rfl)) (by decide) (by decide) hEL hC.1 G20.lt Sf19_b2__K21 (fun _ _ => trivial)) (g := (mkF m 113 #[.val (.int p0), .val (.int p1), .val (.int p2), .val (.int p3), .val (.int p4), .val (.int fr), .val (.int tt), .val (.ref b2), .unset, .unset, .unset, .unset, .unset, .unset, .unset, .unset, .unset, .unset, .unset, .unset, .unset, .unset, .unset, .unset] [(.int p2), (.int (6 : Int32)), (.int (fr + (6 : Int32))), (.ref b2)])) rfl (by rw [hml]; rfl) (argsL := [(.int (6 : Int32)), (.int p2)]) (rest := [(.int (fr + (6 : Int32))), (.ref b2)]) (lenOf pd_11 rfl) rfl (by show 2 * 0 + _ ≤ _; exact Nat.le_of_eq rfl) (hb hby at_113) (fun _ _ => ⟨rfl, e20, (by decide : 1 + 2 ≤ _), (by decide : 24 + 48 ≤ _)⟩)
          dsimp only [Pt.U, Pt.locs, Pt.cells, Pt.slots] at X159 l159 y159 z159 st159 hQ159
          subst l159 y159 z159
          dsimp only [Pt.U, Pt.locs, Pt.cells, Pt.slots] at hSq159 hgq159 hr159
          obtain ⟨X159, hS, hZ, hown⟩ := rebS hS (by rw [e20]; exact hk) X159 hSq159 hgq159 hZ hown
          have hk := Nat.le_refl T159.heap.size
          have Sf19_b2__C159 := CHr.safe hr159 G20.lt Sf19_b2__K21
          have hC := hC.trans hr159
          obtain ⟨rfl, Nq159, Kq159, LSq159⟩ := hQ159
          have N159 := Fr.app N20 Nq159
          have K160 : Keep h0 T159.heap [] := Keep.trans (ws := []) K21 Kq159 all0
          have O_160 : Old Z n0 T159.heap := O_21.keep Kq159 all0
          refine Runs.by (fun _ hr => st159.trans hr) ?_
          exact JC6 nb0 nb1 nb2 nb3 nb4 nb5 (45 : Int32) _ _ (own_up wl5 (f + 5) (nar .byte nb5)) _ _ _ _ _ X159 rfl N159 K160 O_160 hC hS hk hZ hown (G20.keep Kq159 nin0) Sf19_b2__C159 hnb0 hnb1 hnb2 hnb3 hnb4 hnb5 (by decide) (by rw [hwl5]) (Or.inr (Or.inl ⟨rfl, rfl, LSq159⟩))
        · skip
          show Runs p e below _ (T20.setTop (mkF m 113 #[.val (.int p0), .val (.int p1), .val (.int p2), .val (.int p3), .val (.int p4), .val (.int fr), .val (.int tt), .val (.ref b2), .unset, .unset, .unset, .unset, .unset, .unset, .unset, .unset, .unset, .unset, .unset, .unset, .unset, .unset, .unset, .unset] [(.int p2), (.int (6 : Int32)), (.int (fr + (6 : Int32))), (.ref b2)]))
          obtain ⟨_, _, ⟨T161, L161, k161, n161⟩, -, X161, hSq161, hgq161, ⟨Lc161, hQ161, l161, y161, z161, hr161⟩, st161⟩ := callSS X20 hx (y := (⟨"com/example/word_odds/wordodds/filter/VerdictFieldBeginsPinLaw", "nameByte", "(II)B"⟩ : MethodName)) hown (mvT hZ (hw _ (List.mem_of_getElem? (i := 2) rfl))) (mvT hZ (hw _ (List.mem_of_getElem? (i := 3) rfl))) (mvT hZ (hw _ (List.mem_of_getElem? (i := 4) rfl))) (mvT hZ (hw _ (List.mem_of_getElem? (i := 5) rfl))) (by decide) (own_backX (W := 2) (PX := fun _ => True) (rm1_32c l Z a0 hw [] (6 : Int32) p2 gC vG (45 : Int32) (45 : Int32) b2 k2 (own_up wl5 (f + 5) (nar .byte nb5))  h20 n0 (Nat.le_trans Z0 K21.1) (SC.ext O_21.2) cC hvG (SG.ext O_21.2) hbit6 ⟨by decide, by decide⟩ rfl (by decide) (by decide) G20 hEL) hZ (hw _ (List.mem_of_getElem? (i := 5) rfl)) (hw _ (List.mem_of_getElem? (i := 4) rfl)) (by decide) (by decide) hEL hC.1 G20.lt Sf19_b2__K21 (fun _ _ => trivial)) (g := (mkF m 113 #[.val (.int p0), .val (.int p1), .val (.int p2), .val (.int p3), .val (.int p4), .val (.int fr), .val (.int tt), .val (.ref b2), .unset, .unset, .unset, .unset, .unset, .unset, .unset, .unset, .unset, .unset, .unset, .unset, .unset, .unset, .unset, .unset] [(.int p2), (.int (6 : Int32)), (.int (fr + (6 : Int32))), (.ref b2)])) rfl (by rw [hml]; rfl) (argsL := [(.int (6 : Int32)), (.int p2)]) (rest := [(.int (fr + (6 : Int32))), (.ref b2)]) (lenOf pd_11 rfl) rfl (by show 2 * 0 + _ ≤ _; exact Nat.le_of_eq rfl) (hb hby at_113) (fun _ _ => ⟨rfl, e20, (by decide : 1 + 2 ≤ _), (by decide : 24 + 48 ≤ _)⟩)
          dsimp only [Pt.U, Pt.locs, Pt.cells, Pt.slots] at X161 l161 y161 z161 st161 hQ161
          subst l161 y161 z161
          dsimp only [Pt.U, Pt.locs, Pt.cells, Pt.slots] at hSq161 hgq161 hr161
          obtain ⟨X161, hS, hZ, hown⟩ := rebS hS (by rw [e20]; exact hk) X161 hSq161 hgq161 hZ hown
          have hk := Nat.le_refl T161.heap.size
          have Sf19_b2__C161 := CHr.safe hr161 G20.lt Sf19_b2__K21
          have hC := hC.trans hr161
          obtain ⟨rfl, Nq161, Kq161, LSq161⟩ := hQ161
          have N161 := Fr.app N20 Nq161
          have K162 : Keep h0 T161.heap [] := Keep.trans (ws := []) K21 Kq161 all0
          have O_162 : Old Z n0 T161.heap := O_21.keep Kq161 all0
          refine Runs.by (fun _ hr => st161.trans hr) ?_
          exact JC6 nb0 nb1 nb2 nb3 nb4 nb5 (45 : Int32) _ _ (own_up wl5 (f + 5) (nar .byte nb5)) _ _ _ _ _ X161 rfl N161 K162 O_162 hC hS hk hZ hown (G20.keep Kq161 nin0) Sf19_b2__C161 hnb0 hnb1 hnb2 hnb3 hnb4 hnb5 (by decide) (by rw [hwl5]) (Or.inr (Or.inr (Or.inl ⟨rfl, rfl, LSq161⟩)))
      · skip
        by_cases hbit6 : ((p2 >>> ((6 : Int32) &&& 31)) &&& (1 : Int32)) = (0 : Int32)
        · skip
          obtain ⟨la, lb, lk, lLi, lfE, lfC, lfV, lfA, -, -⟩ := id LSl
          show Runs p e below _ (T20.setTop (mkF m 113 #[.val (.int p0), .val (.int p1), .val (.int p2), .val (.int p3), .val (.int p4), .val (.int fr), .val (.int tt), .val (.ref b2), .unset, .unset, .unset, .unset, .unset, .unset, .unset, .unset, .unset, .unset, .unset, .unset, .unset, .unset, .unset, .unset] [(.int p2), (.int (6 : Int32)), (.int (fr + (6 : Int32))), (.ref b2)]))
          obtain ⟨_, _, ⟨T163, L163, k163, n163⟩, -, X163, hSq163, hgq163, ⟨Lc163, hQ163, l163, y163, z163, hr163⟩, st163⟩ := callSS X20 hx (y := (⟨"com/example/word_odds/wordodds/filter/VerdictFieldBeginsPinLaw", "nameByte", "(II)B"⟩ : MethodName)) hown (mvT hZ (hw _ (List.mem_of_getElem? (i := 2) rfl))) (mvT hZ (hw _ (List.mem_of_getElem? (i := 3) rfl))) (mvT hZ (hw _ (List.mem_of_getElem? (i := 4) rfl))) (mvT hZ (hw _ (List.mem_of_getElem? (i := 5) rfl))) (by decide) (own_backX (W := 2) (PX := fun vm_ => Lit (Z.setVm vm_) "com/example/word_odds/wordodds/filter/VerdictFieldBeginsPinLaw" 24 la) (rm1_24w l Z a0 hw [] (6 : Int32) p2 gC vG (45 : Int32) (45 : Int32) b2 k2 (own_up wl5 (f + 5) (nar .byte nb5)) la lb lk  h20 n0 (Nat.le_trans Z0 K21.1) (SC.ext O_21.2) cC hvG (SG.ext O_21.2) hbit6 ⟨by decide, by decide⟩ rfl (by decide) (by decide) G20 lfE lfC lfV lfA hEL) hZ (hw _ (List.mem_of_getElem? (i := 5) rfl)) (hw _ (List.mem_of_getElem? (i := 4) rfl)) (by decide) (by decide) hEL hC.1 G20.lt Sf19_b2__K21 (fun _ q => own_lstay (s := s) lLi q)) (g := (mkF m 113 #[.val (.int p0), .val (.int p1), .val (.int p2), .val (.int p3), .val (.int p4), .val (.int fr), .val (.int tt), .val (.ref b2), .unset, .unset, .unset, .unset, .unset, .unset, .unset, .unset, .unset, .unset, .unset, .unset, .unset, .unset, .unset, .unset] [(.int p2), (.int (6 : Int32)), (.int (fr + (6 : Int32))), (.ref b2)])) rfl (by rw [hml]; rfl) (argsL := [(.int (6 : Int32)), (.int p2)]) (rest := [(.int (fr + (6 : Int32))), (.ref b2)]) (lenOf pd_11 rfl) rfl (by show 2 * 0 + _ ≤ _; exact Nat.le_of_eq rfl) (hb hby at_113) (fun _ _ => ⟨rfl, e20, (by decide : 3 + 0 ≤ _), (by decide : 72 + 0 ≤ _)⟩)
          dsimp only [Pt.U, Pt.locs, Pt.cells, Pt.slots] at X163 l163 y163 z163 st163 hQ163
          subst l163 y163 z163
          dsimp only [Pt.U, Pt.locs, Pt.cells, Pt.slots] at hSq163 hgq163 hr163
          obtain ⟨X163, hS, hZ, hown⟩ := rebS hS (by rw [e20]; exact hk) X163 hSq163 hgq163 hZ hown
          have hk := Nat.le_refl T163.heap.size
          have Sf19_b2__C163 := CHr.safe hr163 G20.lt Sf19_b2__K21
          have hC := hC.trans hr163
          obtain ⟨rfl, Nq163, Kq163⟩ := hQ163
          have N163 := Fr.app N20 Nq163
          have K164 : Keep h0 T163.heap [] := Keep.trans (ws := []) K21 Kq163 all0
          have O_164 : Old Z n0 T163.heap := O_21.keep Kq163 all0
          refine Runs.by (fun _ hr => st163.trans hr) ?_
          exact JC6 nb0 nb1 nb2 nb3 nb4 nb5 (45 : Int32) _ _ (own_up wl5 (f + 5) (nar .byte nb5)) _ _ _ _ _ X163 rfl N163 K164 O_164 hC hS hk hZ hown (G20.keep Kq163 nin0) Sf19_b2__C163 hnb0 hnb1 hnb2 hnb3 hnb4 hnb5 (by decide) (by rw [hwl5]) (Or.inr (Or.inl ⟨rfl, rfl, (LSl.step hSq163.1 Kq163)⟩))
        · skip
          show Runs p e below _ (T20.setTop (mkF m 113 #[.val (.int p0), .val (.int p1), .val (.int p2), .val (.int p3), .val (.int p4), .val (.int fr), .val (.int tt), .val (.ref b2), .unset, .unset, .unset, .unset, .unset, .unset, .unset, .unset, .unset, .unset, .unset, .unset, .unset, .unset, .unset, .unset] [(.int p2), (.int (6 : Int32)), (.int (fr + (6 : Int32))), (.ref b2)]))
          obtain ⟨_, _, ⟨T165, L165, k165, n165⟩, -, X165, hSq165, hgq165, ⟨Lc165, hQ165, l165, y165, z165, hr165⟩, st165⟩ := callSS X20 hx (y := (⟨"com/example/word_odds/wordodds/filter/VerdictFieldBeginsPinLaw", "nameByte", "(II)B"⟩ : MethodName)) hown (mvT hZ (hw _ (List.mem_of_getElem? (i := 2) rfl))) (mvT hZ (hw _ (List.mem_of_getElem? (i := 3) rfl))) (mvT hZ (hw _ (List.mem_of_getElem? (i := 4) rfl))) (mvT hZ (hw _ (List.mem_of_getElem? (i := 5) rfl))) (by decide) (own_backX (W := 2) (PX := fun _ => True) (rm1_32c l Z a0 hw [] (6 : Int32) p2 gC vG (45 : Int32) (45 : Int32) b2 k2 (own_up wl5 (f + 5) (nar .byte nb5))  h20 n0 (Nat.le_trans Z0 K21.1) (SC.ext O_21.2) cC hvG (SG.ext O_21.2) hbit6 ⟨by decide, by decide⟩ rfl (by decide) (by decide) G20 hEL) hZ (hw _ (List.mem_of_getElem? (i := 5) rfl)) (hw _ (List.mem_of_getElem? (i := 4) rfl)) (by decide) (by decide) hEL hC.1 G20.lt Sf19_b2__K21 (fun _ _ => trivial)) (g := (mkF m 113 #[.val (.int p0), .val (.int p1), .val (.int p2), .val (.int p3), .val (.int p4), .val (.int fr), .val (.int tt), .val (.ref b2), .unset, .unset, .unset, .unset, .unset, .unset, .unset, .unset, .unset, .unset, .unset, .unset, .unset, .unset, .unset, .unset] [(.int p2), (.int (6 : Int32)), (.int (fr + (6 : Int32))), (.ref b2)])) rfl (by rw [hml]; rfl) (argsL := [(.int (6 : Int32)), (.int p2)]) (rest := [(.int (fr + (6 : Int32))), (.ref b2)]) (lenOf pd_11 rfl) rfl (by show 2 * 0 + _ ≤ _; exact Nat.le_of_eq rfl) (hb hby at_113) (fun _ _ => ⟨rfl, e20, (by decide : 3 + 2 ≤ _), (by decide : 72 + 48 ≤ _)⟩)
          dsimp only [Pt.U, Pt.locs, Pt.cells, Pt.slots] at X165 l165 y165 z165 st165 hQ165
          subst l165 y165 z165
          dsimp only [Pt.U, Pt.locs, Pt.cells, Pt.slots] at hSq165 hgq165 hr165
          obtain ⟨X165, hS, hZ, hown⟩ := rebS hS (by rw [e20]; exact hk) X165 hSq165 hgq165 hZ hown
          have hk := Nat.le_refl T165.heap.size
          have Sf19_b2__C165 := CHr.safe hr165 G20.lt Sf19_b2__K21
          have hC := hC.trans hr165
          obtain ⟨rfl, Nq165, Kq165, LSq165⟩ := hQ165
          have N165 := Fr.app N20 Nq165
          have K166 : Keep h0 T165.heap [] := Keep.trans (ws := []) K21 Kq165 all0
          have O_166 : Old Z n0 T165.heap := O_21.keep Kq165 all0
          refine Runs.by (fun _ hr => st165.trans hr) ?_
          exact JC6 nb0 nb1 nb2 nb3 nb4 nb5 (45 : Int32) _ _ (own_up wl5 (f + 5) (nar .byte nb5)) _ _ _ _ _ X165 rfl N165 K166 O_166 hC hS hk hZ hown (G20.keep Kq165 nin0) Sf19_b2__C165 hnb0 hnb1 hnb2 hnb3 hnb4 hnb5 (by decide) (by rw [hwl5]) (Or.inr (Or.inr (Or.inr ⟨rfl, rfl, (LSl.step hSq165.1 Kq165), LSq165⟩)))
      · skip
        by_cases hbit6 : ((p2 >>> ((6 : Int32) &&& 31)) &&& (1 : Int32)) = (0 : Int32)
        · skip
          show Runs p e below _ (T20.setTop (mkF m 113 #[.val (.int p0), .val (.int p1), .val (.int p2), .val (.int p3), .val (.int p4), .val (.int fr), .val (.int tt), .val (.ref b2), .unset, .unset, .unset, .unset, .unset, .unset, .unset, .unset, .unset, .unset, .unset, .unset, .unset, .unset, .unset, .unset] [(.int p2), (.int (6 : Int32)), (.int (fr + (6 : Int32))), (.ref b2)]))
          obtain ⟨_, _, ⟨T167, L167, k167, n167⟩, -, X167, hSq167, hgq167, ⟨Lc167, hQ167, l167, y167, z167, hr167⟩, st167⟩ := callSS X20 hx (y := (⟨"com/example/word_odds/wordodds/filter/VerdictFieldBeginsPinLaw", "nameByte", "(II)B"⟩ : MethodName)) hown (mvT hZ (hw _ (List.mem_of_getElem? (i := 2) rfl))) (mvT hZ (hw _ (List.mem_of_getElem? (i := 3) rfl))) (mvT hZ (hw _ (List.mem_of_getElem? (i := 4) rfl))) (mvT hZ (hw _ (List.mem_of_getElem? (i := 5) rfl))) (by decide) (own_backX (W := 2) (PX := fun _ => True) (rm1_24c l Z a0 hw [] (6 : Int32) p2 gC vG (45 : Int32) (45 : Int32) b2 k2 (own_up wl5 (f + 5) (nar .byte nb5))  h20 n0 (Nat.le_trans Z0 K21.1) (SC.ext O_21.2) cC hvG (SG.ext O_21.2) hbit6 ⟨by decide, by decide⟩ rfl (by decide) (by decide) G20 hEL) hZ (hw _ (List.mem_of_getElem? (i := 5) rfl)) (hw _ (List.mem_of_getElem? (i := 4) rfl)) (by decide) (by decide) hEL hC.1 G20.lt Sf19_b2__K21 (fun _ _ => trivial)) (g := (mkF m 113 #[.val (.int p0), .val (.int p1), .val (.int p2), .val (.int p3), .val (.int p4), .val (.int fr), .val (.int tt), .val (.ref b2), .unset, .unset, .unset, .unset, .unset, .unset, .unset, .unset, .unset, .unset, .unset, .unset, .unset, .unset, .unset, .unset] [(.int p2), (.int (6 : Int32)), (.int (fr + (6 : Int32))), (.ref b2)])) rfl (by rw [hml]; rfl) (argsL := [(.int (6 : Int32)), (.int p2)]) (rest := [(.int (fr + (6 : Int32))), (.ref b2)]) (lenOf pd_11 rfl) rfl (by show 2 * 0 + _ ≤ _; exact Nat.le_of_eq rfl) (hb hby at_113) (fun _ _ => ⟨rfl, e20, (by decide : 3 + 2 ≤ _), (by decide : 72 + 48 ≤ _)⟩)
          dsimp only [Pt.U, Pt.locs, Pt.cells, Pt.slots] at X167 l167 y167 z167 st167 hQ167
          subst l167 y167 z167
          dsimp only [Pt.U, Pt.locs, Pt.cells, Pt.slots] at hSq167 hgq167 hr167
          obtain ⟨X167, hS, hZ, hown⟩ := rebS hS (by rw [e20]; exact hk) X167 hSq167 hgq167 hZ hown
          have hk := Nat.le_refl T167.heap.size
          have Sf19_b2__C167 := CHr.safe hr167 G20.lt Sf19_b2__K21
          have hC := hC.trans hr167
          obtain ⟨rfl, Nq167, Kq167, LSq167⟩ := hQ167
          have N167 := Fr.app N20 Nq167
          have K168 : Keep h0 T167.heap [] := Keep.trans (ws := []) K21 Kq167 all0
          have O_168 : Old Z n0 T167.heap := O_21.keep Kq167 all0
          refine Runs.by (fun _ hr => st167.trans hr) ?_
          exact JC6 nb0 nb1 nb2 nb3 nb4 nb5 (45 : Int32) _ _ (own_up wl5 (f + 5) (nar .byte nb5)) _ _ _ _ _ X167 rfl N167 K168 O_168 hC hS hk hZ hown (G20.keep Kq167 nin0) Sf19_b2__C167 hnb0 hnb1 hnb2 hnb3 hnb4 hnb5 (by decide) (by rw [hwl5]) (Or.inr (Or.inr (Or.inr ⟨rfl, rfl, LSq167, (LSu.step hSq167.1 Kq167)⟩)))
        · skip
          obtain ⟨la, lb, lk, lLi, lfE, lfC, lfV, lfA, -, -⟩ := id LSu
          show Runs p e below _ (T20.setTop (mkF m 113 #[.val (.int p0), .val (.int p1), .val (.int p2), .val (.int p3), .val (.int p4), .val (.int fr), .val (.int tt), .val (.ref b2), .unset, .unset, .unset, .unset, .unset, .unset, .unset, .unset, .unset, .unset, .unset, .unset, .unset, .unset, .unset, .unset] [(.int p2), (.int (6 : Int32)), (.int (fr + (6 : Int32))), (.ref b2)]))
          obtain ⟨_, _, ⟨T169, L169, k169, n169⟩, -, X169, hSq169, hgq169, ⟨Lc169, hQ169, l169, y169, z169, hr169⟩, st169⟩ := callSS X20 hx (y := (⟨"com/example/word_odds/wordodds/filter/VerdictFieldBeginsPinLaw", "nameByte", "(II)B"⟩ : MethodName)) hown (mvT hZ (hw _ (List.mem_of_getElem? (i := 2) rfl))) (mvT hZ (hw _ (List.mem_of_getElem? (i := 3) rfl))) (mvT hZ (hw _ (List.mem_of_getElem? (i := 4) rfl))) (mvT hZ (hw _ (List.mem_of_getElem? (i := 5) rfl))) (by decide) (own_backX (W := 2) (PX := fun vm_ => Lit (Z.setVm vm_) "com/example/word_odds/wordodds/filter/VerdictFieldBeginsPinLaw" 32 la) (rm1_32w l Z a0 hw [] (6 : Int32) p2 gC vG (45 : Int32) (45 : Int32) b2 k2 (own_up wl5 (f + 5) (nar .byte nb5)) la lb lk  h20 n0 (Nat.le_trans Z0 K21.1) (SC.ext O_21.2) cC hvG (SG.ext O_21.2) hbit6 ⟨by decide, by decide⟩ rfl (by decide) (by decide) G20 lfE lfC lfV lfA hEL) hZ (hw _ (List.mem_of_getElem? (i := 5) rfl)) (hw _ (List.mem_of_getElem? (i := 4) rfl)) (by decide) (by decide) hEL hC.1 G20.lt Sf19_b2__K21 (fun _ q => own_lstay (s := s) lLi q)) (g := (mkF m 113 #[.val (.int p0), .val (.int p1), .val (.int p2), .val (.int p3), .val (.int p4), .val (.int fr), .val (.int tt), .val (.ref b2), .unset, .unset, .unset, .unset, .unset, .unset, .unset, .unset, .unset, .unset, .unset, .unset, .unset, .unset, .unset, .unset] [(.int p2), (.int (6 : Int32)), (.int (fr + (6 : Int32))), (.ref b2)])) rfl (by rw [hml]; rfl) (argsL := [(.int (6 : Int32)), (.int p2)]) (rest := [(.int (fr + (6 : Int32))), (.ref b2)]) (lenOf pd_11 rfl) rfl (by show 2 * 0 + _ ≤ _; exact Nat.le_of_eq rfl) (hb hby at_113) (fun _ _ => ⟨rfl, e20, (by decide : 3 + 0 ≤ _), (by decide : 72 + 0 ≤ _)⟩)
          dsimp only [Pt.U, Pt.locs, Pt.cells, Pt.slots] at X169 l169 y169 z169 st169 hQ169
          subst l169 y169 z169
          dsimp only [Pt.U, Pt.locs, Pt.cells, Pt.slots] at hSq169 hgq169 hr169
          obtain ⟨X169, hS, hZ, hown⟩ := rebS hS (by rw [e20]; exact hk) X169 hSq169 hgq169 hZ hown
          have hk := Nat.le_refl T169.heap.size
          have Sf19_b2__C169 := CHr.safe hr169 G20.lt Sf19_b2__K21
          have hC := hC.trans hr169
          obtain ⟨rfl, Nq169, Kq169⟩ := hQ169
          have N169 := Fr.app N20 Nq169
          have K170 : Keep h0 T169.heap [] := Keep.trans (ws := []) K21 Kq169 all0
          have O_170 : Old Z n0 T169.heap := O_21.keep Kq169 all0
          refine Runs.by (fun _ hr => st169.trans hr) ?_
          exact JC6 nb0 nb1 nb2 nb3 nb4 nb5 (45 : Int32) _ _ (own_up wl5 (f + 5) (nar .byte nb5)) _ _ _ _ _ X169 rfl N169 K170 O_170 hC hS hk hZ hown (G20.keep Kq169 nin0) Sf19_b2__C169 hnb0 hnb1 hnb2 hnb3 hnb4 hnb5 (by decide) (by rw [hwl5]) (Or.inr (Or.inr (Or.inl ⟨rfl, rfl, (LSu.step hSq169.1 Kq169)⟩)))
      · skip
        by_cases hbit6 : ((p2 >>> ((6 : Int32) &&& 31)) &&& (1 : Int32)) = (0 : Int32)
        · skip
          obtain ⟨la, lb, lk, lLi, lfE, lfC, lfV, lfA, -, -⟩ := id LSl
          show Runs p e below _ (T20.setTop (mkF m 113 #[.val (.int p0), .val (.int p1), .val (.int p2), .val (.int p3), .val (.int p4), .val (.int fr), .val (.int tt), .val (.ref b2), .unset, .unset, .unset, .unset, .unset, .unset, .unset, .unset, .unset, .unset, .unset, .unset, .unset, .unset, .unset, .unset] [(.int p2), (.int (6 : Int32)), (.int (fr + (6 : Int32))), (.ref b2)]))
          obtain ⟨_, _, ⟨T171, L171, k171, n171⟩, -, X171, hSq171, hgq171, ⟨Lc171, hQ171, l171, y171, z171, hr171⟩, st171⟩ := callSS X20 hx (y := (⟨"com/example/word_odds/wordodds/filter/VerdictFieldBeginsPinLaw", "nameByte", "(II)B"⟩ : MethodName)) hown (mvT hZ (hw _ (List.mem_of_getElem? (i := 2) rfl))) (mvT hZ (hw _ (List.mem_of_getElem? (i := 3) rfl))) (mvT hZ (hw _ (List.mem_of_getElem? (i := 4) rfl))) (mvT hZ (hw _ (List.mem_of_getElem? (i := 5) rfl))) (by decide) (own_backX (W := 2) (PX := fun vm_ => Lit (Z.setVm vm_) "com/example/word_odds/wordodds/filter/VerdictFieldBeginsPinLaw" 24 la) (rm1_24w l Z a0 hw [] (6 : Int32) p2 gC vG (45 : Int32) (45 : Int32) b2 k2 (own_up wl5 (f + 5) (nar .byte nb5)) la lb lk  h20 n0 (Nat.le_trans Z0 K21.1) (SC.ext O_21.2) cC hvG (SG.ext O_21.2) hbit6 ⟨by decide, by decide⟩ rfl (by decide) (by decide) G20 lfE lfC lfV lfA hEL) hZ (hw _ (List.mem_of_getElem? (i := 5) rfl)) (hw _ (List.mem_of_getElem? (i := 4) rfl)) (by decide) (by decide) hEL hC.1 G20.lt Sf19_b2__K21 (fun _ q => own_lstay (s := s) lLi q)) (g := (mkF m 113 #[.val (.int p0), .val (.int p1), .val (.int p2), .val (.int p3), .val (.int p4), .val (.int fr), .val (.int tt), .val (.ref b2), .unset, .unset, .unset, .unset, .unset, .unset, .unset, .unset, .unset, .unset, .unset, .unset, .unset, .unset, .unset, .unset] [(.int p2), (.int (6 : Int32)), (.int (fr + (6 : Int32))), (.ref b2)])) rfl (by rw [hml]; rfl) (argsL := [(.int (6 : Int32)), (.int p2)]) (rest := [(.int (fr + (6 : Int32))), (.ref b2)]) (lenOf pd_11 rfl) rfl (by show 2 * 0 + _ ≤ _; exact Nat.le_of_eq rfl) (hb hby at_113) (fun _ _ => ⟨rfl, e20, (by decide : 5 + 0 ≤ _), (by decide : 120 + 0 ≤ _)⟩)
          dsimp only [Pt.U, Pt.locs, Pt.cells, Pt.slots] at X171 l171 y171 z171 st171 hQ171
          subst l171 y171 z171
          dsimp only [Pt.U, Pt.locs, Pt.cells, Pt.slots] at hSq171 hgq171 hr171
          obtain ⟨X171, hS, hZ, hown⟩ := rebS hS (by rw [e20]; exact hk) X171 hSq171 hgq171 hZ hown
          have hk := Nat.le_refl T171.heap.size
          have Sf19_b2__C171 := CHr.safe hr171 G20.lt Sf19_b2__K21
          have hC := hC.trans hr171
          obtain ⟨rfl, Nq171, Kq171⟩ := hQ171
          have N171 := Fr.app N20 Nq171
          have K172 : Keep h0 T171.heap [] := Keep.trans (ws := []) K21 Kq171 all0
          have O_172 : Old Z n0 T171.heap := O_21.keep Kq171 all0
          refine Runs.by (fun _ hr => st171.trans hr) ?_
          exact JC6 nb0 nb1 nb2 nb3 nb4 nb5 (45 : Int32) _ _ (own_up wl5 (f + 5) (nar .byte nb5)) _ _ _ _ _ X171 rfl N171 K172 O_172 hC hS hk hZ hown (G20.keep Kq171 nin0) Sf19_b2__C171 hnb0 hnb1 hnb2 hnb3 hnb4 hnb5 (by decide) (by rw [hwl5]) (Or.inr (Or.inr (Or.inr ⟨rfl, rfl, (LSl.step hSq171.1 Kq171), (LSu.step hSq171.1 Kq171)⟩)))
        · skip
          obtain ⟨la, lb, lk, lLi, lfE, lfC, lfV, lfA, -, -⟩ := id LSu
          show Runs p e below _ (T20.setTop (mkF m 113 #[.val (.int p0), .val (.int p1), .val (.int p2), .val (.int p3), .val (.int p4), .val (.int fr), .val (.int tt), .val (.ref b2), .unset, .unset, .unset, .unset, .unset, .unset, .unset, .unset, .unset, .unset, .unset, .unset, .unset, .unset, .unset, .unset] [(.int p2), (.int (6 : Int32)), (.int (fr + (6 : Int32))), (.ref b2)]))
          obtain ⟨_, _, ⟨T173, L173, k173, n173⟩, -, X173, hSq173, hgq173, ⟨Lc173, hQ173, l173, y173, z173, hr173⟩, st173⟩ := callSS X20 hx (y := (⟨"com/example/word_odds/wordodds/filter/VerdictFieldBeginsPinLaw", "nameByte", "(II)B"⟩ : MethodName)) hown (mvT hZ (hw _ (List.mem_of_getElem? (i := 2) rfl))) (mvT hZ (hw _ (List.mem_of_getElem? (i := 3) rfl))) (mvT hZ (hw _ (List.mem_of_getElem? (i := 4) rfl))) (mvT hZ (hw _ (List.mem_of_getElem? (i := 5) rfl))) (by decide) (own_backX (W := 2) (PX := fun vm_ => Lit (Z.setVm vm_) "com/example/word_odds/wordodds/filter/VerdictFieldBeginsPinLaw" 32 la) (rm1_32w l Z a0 hw [] (6 : Int32) p2 gC vG (45 : Int32) (45 : Int32) b2 k2 (own_up wl5 (f + 5) (nar .byte nb5)) la lb lk  h20 n0 (Nat.le_trans Z0 K21.1) (SC.ext O_21.2) cC hvG (SG.ext O_21.2) hbit6 ⟨by decide, by decide⟩ rfl (by decide) (by decide) G20 lfE lfC lfV lfA hEL) hZ (hw _ (List.mem_of_getElem? (i := 5) rfl)) (hw _ (List.mem_of_getElem? (i := 4) rfl)) (by decide) (by decide) hEL hC.1 G20.lt Sf19_b2__K21 (fun _ q => own_lstay (s := s) lLi q)) (g := (mkF m 113 #[.val (.int p0), .val (.int p1), .val (.int p2), .val (.int p3), .val (.int p4), .val (.int fr), .val (.int tt), .val (.ref b2), .unset, .unset, .unset, .unset, .unset, .unset, .unset, .unset, .unset, .unset, .unset, .unset, .unset, .unset, .unset, .unset] [(.int p2), (.int (6 : Int32)), (.int (fr + (6 : Int32))), (.ref b2)])) rfl (by rw [hml]; rfl) (argsL := [(.int (6 : Int32)), (.int p2)]) (rest := [(.int (fr + (6 : Int32))), (.ref b2)]) (lenOf pd_11 rfl) rfl (by show 2 * 0 + _ ≤ _; exact Nat.le_of_eq rfl) (hb hby at_113) (fun _ _ => ⟨rfl, e20, (by decide : 5 + 0 ≤ _), (by decide : 120 + 0 ≤ _)⟩)
          dsimp only [Pt.U, Pt.locs, Pt.cells, Pt.slots] at X173 l173 y173 z173 st173 hQ173
          subst l173 y173 z173
          dsimp only [Pt.U, Pt.locs, Pt.cells, Pt.slots] at hSq173 hgq173 hr173
          obtain ⟨X173, hS, hZ, hown⟩ := rebS hS (by rw [e20]; exact hk) X173 hSq173 hgq173 hZ hown
          have hk := Nat.le_refl T173.heap.size
          have Sf19_b2__C173 := CHr.safe hr173 G20.lt Sf19_b2__K21
          have hC := hC.trans hr173
          obtain ⟨rfl, Nq173, Kq173⟩ := hQ173
          have N173 := Fr.app N20 Nq173
          have K174 : Keep h0 T173.heap [] := Keep.trans (ws := []) K21 Kq173 all0
          have O_174 : Old Z n0 T173.heap := O_21.keep Kq173 all0
          refine Runs.by (fun _ hr => st173.trans hr) ?_
          exact JC6 nb0 nb1 nb2 nb3 nb4 nb5 (45 : Int32) _ _ (own_up wl5 (f + 5) (nar .byte nb5)) _ _ _ _ _ X173 rfl N173 K174 O_174 hC hS hk hZ hown (G20.keep Kq173 nin0) Sf19_b2__C173 hnb0 hnb1 hnb2 hnb3 hnb4 hnb5 (by decide) (by rw [hwl5]) (Or.inr (Or.inr (Or.inr ⟨rfl, rfl, (LSl.step hSq173.1 Kq173), (LSu.step hSq173.1 Kq173)⟩)))
    have JC4 : ∀ (nb0 nb1 nb2 nb3 nb4 : Int32) (cJ4 sJ4 : Nat) (wl4 : Nat → Int32) (TJ16 : State) (hJ16 : Heap) (lJ16 : List Loc) (vJ16 : Vm) (kJ16 : Nat) (XJ16 : Stand p l e room_1 (s.setVm vJ16) m #[(.int p0), (.int p1), (.int p2), (.int p3), (.int p4)] below meth c TJ16 lJ16 cJ4 sJ4) (eJ16 : TJ16.heap = hJ16) (NJ16 : Fr n0 lJ16) (KJ16 : Keep h0 hJ16 []) (OJ16 : Old Z n0 hJ16) (hCJ16 : CHr Z consts_1 s.vm s.heap vJ16 hJ16) (hSJ16 : s.Since vJ16 kJ16) (hkJ16 : kJ16 ≤ hJ16.size) (hZJ16 : Z.Warmed39 vJ16) (hoJ16 : vJ16.findClass "com/example/word_odds/wordodds/filter/VerdictFieldBeginsPinLaw" = some m.cls) (fJ16_0 : Arf Z hJ16 b2 k2 .byte (24 : Int32) (fun j_ => .int (wl4 j_))) (Sf16_b2 : Safe Z consts_1 vJ16 hJ16 b2) (hnb0 : own_lc (nar .byte nb0) = (120 : Int32)) (hnb1 : own_lc (nar .byte nb1) = (45 : Int32)) (hnb2 : own_lc (nar .byte nb2) = (119 : Int32)) (hnb3 : own_lc (nar .byte nb3) = (111 : Int32)) (hnb4 : own_lc (nar .byte nb4) = (114 : Int32)) (hwl4 : wl4 = (own_up (own_up (own_up (own_up (fun _ => (0 : Int32)) (f + 0) (nar .byte nb0)) (f + 1) (nar .byte nb1)) (f + 2) (nar .byte nb2)) (f + 3) (nar .byte nb3))) (inv : own_inv Z vJ16 hJ16 b2 cJ4 sJ4), Runs p e below (QEW Z consts_1 s (Q_rm0 Z p0 p1 p2 p3 p4 gC vG lo ko h0 n0) room_1.cells room_1.slots) (TJ16.setTop (mkF m 90 #[.val (.int p0), .val (.int p1), .val (.int p2), .val (.int p3), .val (.int p4), .val (.int fr), .val (.int tt), .val (.ref b2), .unset, .unset, .unset, .unset, .unset, .unset, .unset, .unset, .unset, .unset, .unset, .unset, .unset, .unset, .unset, .unset] [(.int nb4), (.int (fr + (4 : Int32))), (.ref b2)])) := by
      intro nb0 nb1 nb2 nb3 nb4 cJ4 sJ4 wl4 TJ16 hJ16 lJ16 vJ16 kJ16 XJ16 eJ16 NJ16 KJ16 OJ16 hC hS hk hZ hown fJ16_0 Sf16_b2 hnb0 hnb1 hnb2 hnb3 hnb4 hwl4 inv
      clear JC6 JC7 JC8 JC9 JC10
      show Runs p e below _ (TJ16.setTop (mkF m 90 #[.val (.int p0), .val (.int p1), .val (.int p2), .val (.int p3), .val (.int p4), .val (.int fr), .val (.int tt), .val (.ref b2), .unset, .unset, .unset, .unset, .unset, .unset, .unset, .unset, .unset, .unset, .unset, .unset, .unset, .unset, .unset, .unset] [(.int nb4), (.int (fr + (4 : Int32))), (.ref b2)]))
      obtain ⟨cl17, Ar17, q17, S17, N17', H17⟩ := id fJ16_0
      have ix17 := own_ix (j := (fr + (4 : Int32))) (z := (24 : Int32)) (n := f + 4) (own_ad hf h3 (n := 4) (by decide) (by decide)) (own_ad24 hf h3 (n := 4) (by decide) (by decide))
      have hin17 : ¬ ((fr + (4 : Int32)) < 0 ∨ cl17.slots.size ≤ ((fr + (4 : Int32))).toNatClampNeg) := inb_of S17 ix17.1
      obtain ⟨T17, h17, X17, e17, W17, st17⟩ := stB XJ16 hx hZ eJ16 Ar17 (j := (fr + (4 : Int32))) hin17 (g := (mkF m 90 #[.val (.int p0), .val (.int p1), .val (.int p2), .val (.int p3), .val (.int p4), .val (.int fr), .val (.int tt), .val (.ref b2), .unset, .unset, .unset, .unset, .unset, .unset, .unset, .unset, .unset, .unset, .unset, .unset, .unset, .unset, .unset, .unset] [(.int nb4), (.int (fr + (4 : Int32))), (.ref b2)])) rfl rfl (hb hby at_90)
      have G17 : Arf Z h17 b2 k2 .byte (24 : Int32) (fun j_ => .int ((own_up wl4 (f + 4) (nar .byte nb4)) j_)) := (Arf.set Ar17 q17 S17 N17' H17 W17 ix17.2.1).cast (fun j_ _ => own_up_map Value.int _ _ _ j_)
      have K18 : Keep h0 h17 [] := KJ16.wr W17 (Or.inr sz_b2)
      have O_18 : Old Z n0 h17 := OJ16.wr W17 g_b2
      have Sf16_b2__K18 := Safe.wr W17 Sf16_b2 hC.1 Sf16_b2
      have hk : _ ≤ h17.size := Nat.le_trans hk (Keep.of_wr W17).1
      have hC := hC.trans (CHr.wr W17 Sf16_b2 hC.1)
      have inv := inv.wr W17
      have N17 := Fr.snoc X17 NJ16 g_b2
      refine Runs.by st17 ?_
      refine Runs.by (fun _ hr => XS.aload X17.here hx rfl (hb hby at_91) rfl rfl hr) ?_
      refine Runs.by (fun _ hr => XS.iload X17.here hx rfl (hb hby at_93) rfl  hr) ?_
      show Runs p e below _ (T17.setTop (mkF m 95 #[.val (.int p0), .val (.int p1), .val (.int p2), .val (.int p3), .val (.int p4), .val (.int fr), .val (.int tt), .val (.ref b2), .unset, .unset, .unset, .unset, .unset, .unset, .unset, .unset, .unset, .unset, .unset, .unset, .unset, .unset, .unset, .unset] [(.int fr), (.ref b2)]))
      refine Runs.by (fun _ hr => XS.iconst X17.here hx rfl (hb hby at_95) hr) ?_
      refine Runs.by (fun _ hr => XS.iadd X17.here hx rfl (hb hby at_96) rfl hr) ?_
      refine Runs.by (fun _ hr => XS.iconst X17.here hx rfl (hb hby at_97) hr) ?_
      show Runs p e below _ (T17.setTop (mkF m 98 #[.val (.int p0), .val (.int p1), .val (.int p2), .val (.int p3), .val (.int p4), .val (.int fr), .val (.int tt), .val (.ref b2), .unset, .unset, .unset, .unset, .unset, .unset, .unset, .unset, .unset, .unset, .unset, .unset, .unset, .unset, .unset, .unset] [(.int (5 : Int32)), (.int (fr + (5 : Int32))), (.ref b2)]))
      refine Runs.by (fun _ hr => XS.iloadN X17.here hx rfl (hb hby at_98) rfl  hr) ?_
      rcases inv with ⟨rfl, rfl⟩ | ⟨rfl, rfl, LSl⟩ | ⟨rfl, rfl, LSu⟩ | ⟨rfl, rfl, LSl, LSu⟩
      · skip
        by_cases hbit5 : ((p2 >>> ((5 : Int32) &&& 31)) &&& (1 : Int32)) = (0 : Int32)
        · skip
          show Runs p e below _ (T17.setTop (mkF m 99 #[.val (.int p0), .val (.int p1), .val (.int p2), .val (.int p3), .val (.int p4), .val (.int fr), .val (.int tt), .val (.ref b2), .unset, .unset, .unset, .unset, .unset, .unset, .unset, .unset, .unset, .unset, .unset, .unset, .unset, .unset, .unset, .unset] [(.int p2), (.int (5 : Int32)), (.int (fr + (5 : Int32))), (.ref b2)]))
          obtain ⟨_, _, ⟨T175, L175, k175, n175⟩, -, X175, hSq175, hgq175, ⟨Lc175, hQ175, l175, y175, z175, hr175⟩, st175⟩ := callSS X17 hx (y := (⟨"com/example/word_odds/wordodds/filter/VerdictFieldBeginsPinLaw", "nameByte", "(II)B"⟩ : MethodName)) hown (mvT hZ (hw _ (List.mem_of_getElem? (i := 2) rfl))) (mvT hZ (hw _ (List.mem_of_getElem? (i := 3) rfl))) (mvT hZ (hw _ (List.mem_of_getElem? (i := 4) rfl))) (mvT hZ (hw _ (List.mem_of_getElem? (i := 5) rfl))) (by decide) (own_backX (W := 2) (PX := fun _ => True) (rm1_24c l Z a0 hw [] (5 : Int32) p2 gC vG (100 : Int32) (100 : Int32) b2 k2 (own_up wl4 (f + 4) (nar .byte nb4))  h17 n0 (Nat.le_trans Z0 K18.1) (SC.ext O_18.2) cC hvG (SG.ext O_18.2) hbit5 ⟨by decide, by decide⟩ rfl (by decide) (by decide) G17 hEL) hZ (hw _ (List.mem_of_getElem? (i := 5) rfl)) (hw _ (List.mem_of_getElem? (i := 4) rfl)) (by decide) (by decide) hEL hC.1 G17.lt Sf16_b2__K18 (fun _ _ => trivial)) (g := (mkF m 99 #[.val (.int p0), .val (.int p1), .val (.int p2), .val (.int p3), .val (.int p4), .val (.int fr), .val (.int tt), .val (.ref b2), .unset, .unset, .unset, .unset, .unset, .unset, .unset, .unset, .unset, .unset, .unset, .unset, .unset, .unset, .unset, .unset] [(.int p2), (.int (5 : Int32)), (.int (fr + (5 : Int32))), (.ref b2)])) rfl (by rw [hml]; rfl) (argsL := [(.int (5 : Int32)), (.int p2)]) (rest := [(.int (fr + (5 : Int32))), (.ref b2)]) (lenOf pd_11 rfl) rfl (by show 2 * 0 + _ ≤ _; exact Nat.le_of_eq rfl) (hb hby at_99) (fun _ _ => ⟨rfl, e17, (by decide : 1 + 2 ≤ _), (by decide : 24 + 48 ≤ _)⟩)
          dsimp only [Pt.U, Pt.locs, Pt.cells, Pt.slots] at X175 l175 y175 z175 st175 hQ175
          subst l175 y175 z175
          dsimp only [Pt.U, Pt.locs, Pt.cells, Pt.slots] at hSq175 hgq175 hr175
          obtain ⟨X175, hS, hZ, hown⟩ := rebS hS (by rw [e17]; exact hk) X175 hSq175 hgq175 hZ hown
          have hk := Nat.le_refl T175.heap.size
          have Sf16_b2__C175 := CHr.safe hr175 G17.lt Sf16_b2__K18
          have hC := hC.trans hr175
          obtain ⟨rfl, Nq175, Kq175, LSq175⟩ := hQ175
          have N175 := Fr.app N17 Nq175
          have K176 : Keep h0 T175.heap [] := Keep.trans (ws := []) K18 Kq175 all0
          have O_176 : Old Z n0 T175.heap := O_18.keep Kq175 all0
          refine Runs.by (fun _ hr => st175.trans hr) ?_
          exact JC5 nb0 nb1 nb2 nb3 nb4 (100 : Int32) _ _ (own_up wl4 (f + 4) (nar .byte nb4)) _ _ _ _ _ X175 rfl N175 K176 O_176 hC hS hk hZ hown (G17.keep Kq175 nin0) Sf16_b2__C175 hnb0 hnb1 hnb2 hnb3 hnb4 (by decide) (by rw [hwl4]) (Or.inr (Or.inl ⟨rfl, rfl, LSq175⟩))
        · skip
          show Runs p e below _ (T17.setTop (mkF m 99 #[.val (.int p0), .val (.int p1), .val (.int p2), .val (.int p3), .val (.int p4), .val (.int fr), .val (.int tt), .val (.ref b2), .unset, .unset, .unset, .unset, .unset, .unset, .unset, .unset, .unset, .unset, .unset, .unset, .unset, .unset, .unset, .unset] [(.int p2), (.int (5 : Int32)), (.int (fr + (5 : Int32))), (.ref b2)]))
          obtain ⟨_, _, ⟨T177, L177, k177, n177⟩, -, X177, hSq177, hgq177, ⟨Lc177, hQ177, l177, y177, z177, hr177⟩, st177⟩ := callSS X17 hx (y := (⟨"com/example/word_odds/wordodds/filter/VerdictFieldBeginsPinLaw", "nameByte", "(II)B"⟩ : MethodName)) hown (mvT hZ (hw _ (List.mem_of_getElem? (i := 2) rfl))) (mvT hZ (hw _ (List.mem_of_getElem? (i := 3) rfl))) (mvT hZ (hw _ (List.mem_of_getElem? (i := 4) rfl))) (mvT hZ (hw _ (List.mem_of_getElem? (i := 5) rfl))) (by decide) (own_backX (W := 2) (PX := fun _ => True) (rm1_32c l Z a0 hw [] (5 : Int32) p2 gC vG (68 : Int32) (68 : Int32) b2 k2 (own_up wl4 (f + 4) (nar .byte nb4))  h17 n0 (Nat.le_trans Z0 K18.1) (SC.ext O_18.2) cC hvG (SG.ext O_18.2) hbit5 ⟨by decide, by decide⟩ rfl (by decide) (by decide) G17 hEL) hZ (hw _ (List.mem_of_getElem? (i := 5) rfl)) (hw _ (List.mem_of_getElem? (i := 4) rfl)) (by decide) (by decide) hEL hC.1 G17.lt Sf16_b2__K18 (fun _ _ => trivial)) (g := (mkF m 99 #[.val (.int p0), .val (.int p1), .val (.int p2), .val (.int p3), .val (.int p4), .val (.int fr), .val (.int tt), .val (.ref b2), .unset, .unset, .unset, .unset, .unset, .unset, .unset, .unset, .unset, .unset, .unset, .unset, .unset, .unset, .unset, .unset] [(.int p2), (.int (5 : Int32)), (.int (fr + (5 : Int32))), (.ref b2)])) rfl (by rw [hml]; rfl) (argsL := [(.int (5 : Int32)), (.int p2)]) (rest := [(.int (fr + (5 : Int32))), (.ref b2)]) (lenOf pd_11 rfl) rfl (by show 2 * 0 + _ ≤ _; exact Nat.le_of_eq rfl) (hb hby at_99) (fun _ _ => ⟨rfl, e17, (by decide : 1 + 2 ≤ _), (by decide : 24 + 48 ≤ _)⟩)
          dsimp only [Pt.U, Pt.locs, Pt.cells, Pt.slots] at X177 l177 y177 z177 st177 hQ177
          subst l177 y177 z177
          dsimp only [Pt.U, Pt.locs, Pt.cells, Pt.slots] at hSq177 hgq177 hr177
          obtain ⟨X177, hS, hZ, hown⟩ := rebS hS (by rw [e17]; exact hk) X177 hSq177 hgq177 hZ hown
          have hk := Nat.le_refl T177.heap.size
          have Sf16_b2__C177 := CHr.safe hr177 G17.lt Sf16_b2__K18
          have hC := hC.trans hr177
          obtain ⟨rfl, Nq177, Kq177, LSq177⟩ := hQ177
          have N177 := Fr.app N17 Nq177
          have K178 : Keep h0 T177.heap [] := Keep.trans (ws := []) K18 Kq177 all0
          have O_178 : Old Z n0 T177.heap := O_18.keep Kq177 all0
          refine Runs.by (fun _ hr => st177.trans hr) ?_
          exact JC5 nb0 nb1 nb2 nb3 nb4 (68 : Int32) _ _ (own_up wl4 (f + 4) (nar .byte nb4)) _ _ _ _ _ X177 rfl N177 K178 O_178 hC hS hk hZ hown (G17.keep Kq177 nin0) Sf16_b2__C177 hnb0 hnb1 hnb2 hnb3 hnb4 (by decide) (by rw [hwl4]) (Or.inr (Or.inr (Or.inl ⟨rfl, rfl, LSq177⟩)))
      · skip
        by_cases hbit5 : ((p2 >>> ((5 : Int32) &&& 31)) &&& (1 : Int32)) = (0 : Int32)
        · skip
          obtain ⟨la, lb, lk, lLi, lfE, lfC, lfV, lfA, -, -⟩ := id LSl
          show Runs p e below _ (T17.setTop (mkF m 99 #[.val (.int p0), .val (.int p1), .val (.int p2), .val (.int p3), .val (.int p4), .val (.int fr), .val (.int tt), .val (.ref b2), .unset, .unset, .unset, .unset, .unset, .unset, .unset, .unset, .unset, .unset, .unset, .unset, .unset, .unset, .unset, .unset] [(.int p2), (.int (5 : Int32)), (.int (fr + (5 : Int32))), (.ref b2)]))
          obtain ⟨_, _, ⟨T179, L179, k179, n179⟩, -, X179, hSq179, hgq179, ⟨Lc179, hQ179, l179, y179, z179, hr179⟩, st179⟩ := callSS X17 hx (y := (⟨"com/example/word_odds/wordodds/filter/VerdictFieldBeginsPinLaw", "nameByte", "(II)B"⟩ : MethodName)) hown (mvT hZ (hw _ (List.mem_of_getElem? (i := 2) rfl))) (mvT hZ (hw _ (List.mem_of_getElem? (i := 3) rfl))) (mvT hZ (hw _ (List.mem_of_getElem? (i := 4) rfl))) (mvT hZ (hw _ (List.mem_of_getElem? (i := 5) rfl))) (by decide) (own_backX (W := 2) (PX := fun vm_ => Lit (Z.setVm vm_) "com/example/word_odds/wordodds/filter/VerdictFieldBeginsPinLaw" 24 la) (rm1_24w l Z a0 hw [] (5 : Int32) p2 gC vG (100 : Int32) (100 : Int32) b2 k2 (own_up wl4 (f + 4) (nar .byte nb4)) la lb lk  h17 n0 (Nat.le_trans Z0 K18.1) (SC.ext O_18.2) cC hvG (SG.ext O_18.2) hbit5 ⟨by decide, by decide⟩ rfl (by decide) (by decide) G17 lfE lfC lfV lfA hEL) hZ (hw _ (List.mem_of_getElem? (i := 5) rfl)) (hw _ (List.mem_of_getElem? (i := 4) rfl)) (by decide) (by decide) hEL hC.1 G17.lt Sf16_b2__K18 (fun _ q => own_lstay (s := s) lLi q)) (g := (mkF m 99 #[.val (.int p0), .val (.int p1), .val (.int p2), .val (.int p3), .val (.int p4), .val (.int fr), .val (.int tt), .val (.ref b2), .unset, .unset, .unset, .unset, .unset, .unset, .unset, .unset, .unset, .unset, .unset, .unset, .unset, .unset, .unset, .unset] [(.int p2), (.int (5 : Int32)), (.int (fr + (5 : Int32))), (.ref b2)])) rfl (by rw [hml]; rfl) (argsL := [(.int (5 : Int32)), (.int p2)]) (rest := [(.int (fr + (5 : Int32))), (.ref b2)]) (lenOf pd_11 rfl) rfl (by show 2 * 0 + _ ≤ _; exact Nat.le_of_eq rfl) (hb hby at_99) (fun _ _ => ⟨rfl, e17, (by decide : 3 + 0 ≤ _), (by decide : 72 + 0 ≤ _)⟩)
          dsimp only [Pt.U, Pt.locs, Pt.cells, Pt.slots] at X179 l179 y179 z179 st179 hQ179
          subst l179 y179 z179
          dsimp only [Pt.U, Pt.locs, Pt.cells, Pt.slots] at hSq179 hgq179 hr179
          obtain ⟨X179, hS, hZ, hown⟩ := rebS hS (by rw [e17]; exact hk) X179 hSq179 hgq179 hZ hown
          have hk := Nat.le_refl T179.heap.size
          have Sf16_b2__C179 := CHr.safe hr179 G17.lt Sf16_b2__K18
          have hC := hC.trans hr179
          obtain ⟨rfl, Nq179, Kq179⟩ := hQ179
          have N179 := Fr.app N17 Nq179
          have K180 : Keep h0 T179.heap [] := Keep.trans (ws := []) K18 Kq179 all0
          have O_180 : Old Z n0 T179.heap := O_18.keep Kq179 all0
          refine Runs.by (fun _ hr => st179.trans hr) ?_
          exact JC5 nb0 nb1 nb2 nb3 nb4 (100 : Int32) _ _ (own_up wl4 (f + 4) (nar .byte nb4)) _ _ _ _ _ X179 rfl N179 K180 O_180 hC hS hk hZ hown (G17.keep Kq179 nin0) Sf16_b2__C179 hnb0 hnb1 hnb2 hnb3 hnb4 (by decide) (by rw [hwl4]) (Or.inr (Or.inl ⟨rfl, rfl, (LSl.step hSq179.1 Kq179)⟩))
        · skip
          show Runs p e below _ (T17.setTop (mkF m 99 #[.val (.int p0), .val (.int p1), .val (.int p2), .val (.int p3), .val (.int p4), .val (.int fr), .val (.int tt), .val (.ref b2), .unset, .unset, .unset, .unset, .unset, .unset, .unset, .unset, .unset, .unset, .unset, .unset, .unset, .unset, .unset, .unset] [(.int p2), (.int (5 : Int32)), (.int (fr + (5 : Int32))), (.ref b2)]))
          obtain ⟨_, _, ⟨T181, L181, k181, n181⟩, -, X181, hSq181, hgq181, ⟨Lc181, hQ181, l181, y181, z181, hr181⟩, st181⟩ := callSS X17 hx (y := (⟨"com/example/word_odds/wordodds/filter/VerdictFieldBeginsPinLaw", "nameByte", "(II)B"⟩ : MethodName)) hown (mvT hZ (hw _ (List.mem_of_getElem? (i := 2) rfl))) (mvT hZ (hw _ (List.mem_of_getElem? (i := 3) rfl))) (mvT hZ (hw _ (List.mem_of_getElem? (i := 4) rfl))) (mvT hZ (hw _ (List.mem_of_getElem? (i := 5) rfl))) (by decide) (own_backX (W := 2) (PX := fun _ => True) (rm1_32c l Z a0 hw [] (5 : Int32) p2 gC vG (68 : Int32) (68 : Int32) b2 k2 (own_up wl4 (f + 4) (nar .byte nb4))  h17 n0 (Nat.le_trans Z0 K18.1) (SC.ext O_18.2) cC hvG (SG.ext O_18.2) hbit5 ⟨by decide, by decide⟩ rfl (by decide) (by decide) G17 hEL) hZ (hw _ (List.mem_of_getElem? (i := 5) rfl)) (hw _ (List.mem_of_getElem? (i := 4) rfl)) (by decide) (by decide) hEL hC.1 G17.lt Sf16_b2__K18 (fun _ _ => trivial)) (g := (mkF m 99 #[.val (.int p0), .val (.int p1), .val (.int p2), .val (.int p3), .val (.int p4), .val (.int fr), .val (.int tt), .val (.ref b2), .unset, .unset, .unset, .unset, .unset, .unset, .unset, .unset, .unset, .unset, .unset, .unset, .unset, .unset, .unset, .unset] [(.int p2), (.int (5 : Int32)), (.int (fr + (5 : Int32))), (.ref b2)])) rfl (by rw [hml]; rfl) (argsL := [(.int (5 : Int32)), (.int p2)]) (rest := [(.int (fr + (5 : Int32))), (.ref b2)]) (lenOf pd_11 rfl) rfl (by show 2 * 0 + _ ≤ _; exact Nat.le_of_eq rfl) (hb hby at_99) (fun _ _ => ⟨rfl, e17, (by decide : 3 + 2 ≤ _), (by decide : 72 + 48 ≤ _)⟩)
          dsimp only [Pt.U, Pt.locs, Pt.cells, Pt.slots] at X181 l181 y181 z181 st181 hQ181
          subst l181 y181 z181
          dsimp only [Pt.U, Pt.locs, Pt.cells, Pt.slots] at hSq181 hgq181 hr181
          obtain ⟨X181, hS, hZ, hown⟩ := rebS hS (by rw [e17]; exact hk) X181 hSq181 hgq181 hZ hown
          have hk := Nat.le_refl T181.heap.size
          have Sf16_b2__C181 := CHr.safe hr181 G17.lt Sf16_b2__K18
          have hC := hC.trans hr181
          obtain ⟨rfl, Nq181, Kq181, LSq181⟩ := hQ181
          have N181 := Fr.app N17 Nq181
          have K182 : Keep h0 T181.heap [] := Keep.trans (ws := []) K18 Kq181 all0
          have O_182 : Old Z n0 T181.heap := O_18.keep Kq181 all0
          refine Runs.by (fun _ hr => st181.trans hr) ?_
          exact JC5 nb0 nb1 nb2 nb3 nb4 (68 : Int32) _ _ (own_up wl4 (f + 4) (nar .byte nb4)) _ _ _ _ _ X181 rfl N181 K182 O_182 hC hS hk hZ hown (G17.keep Kq181 nin0) Sf16_b2__C181 hnb0 hnb1 hnb2 hnb3 hnb4 (by decide) (by rw [hwl4]) (Or.inr (Or.inr (Or.inr ⟨rfl, rfl, (LSl.step hSq181.1 Kq181), LSq181⟩)))
      · skip
        by_cases hbit5 : ((p2 >>> ((5 : Int32) &&& 31)) &&& (1 : Int32)) = (0 : Int32)
        · skip
          show Runs p e below _ (T17.setTop (mkF m 99 #[.val (.int p0), .val (.int p1), .val (.int p2), .val (.int p3), .val (.int p4), .val (.int fr), .val (.int tt), .val (.ref b2), .unset, .unset, .unset, .unset, .unset, .unset, .unset, .unset, .unset, .unset, .unset, .unset, .unset, .unset, .unset, .unset] [(.int p2), (.int (5 : Int32)), (.int (fr + (5 : Int32))), (.ref b2)]))
          obtain ⟨_, _, ⟨T183, L183, k183, n183⟩, -, X183, hSq183, hgq183, ⟨Lc183, hQ183, l183, y183, z183, hr183⟩, st183⟩ := callSS X17 hx (y := (⟨"com/example/word_odds/wordodds/filter/VerdictFieldBeginsPinLaw", "nameByte", "(II)B"⟩ : MethodName)) hown (mvT hZ (hw _ (List.mem_of_getElem? (i := 2) rfl))) (mvT hZ (hw _ (List.mem_of_getElem? (i := 3) rfl))) (mvT hZ (hw _ (List.mem_of_getElem? (i := 4) rfl))) (mvT hZ (hw _ (List.mem_of_getElem? (i := 5) rfl))) (by decide) (own_backX (W := 2) (PX := fun _ => True) (rm1_24c l Z a0 hw [] (5 : Int32) p2 gC vG (100 : Int32) (100 : Int32) b2 k2 (own_up wl4 (f + 4) (nar .byte nb4))  h17 n0 (Nat.le_trans Z0 K18.1) (SC.ext O_18.2) cC hvG (SG.ext O_18.2) hbit5 ⟨by decide, by decide⟩ rfl (by decide) (by decide) G17 hEL) hZ (hw _ (List.mem_of_getElem? (i := 5) rfl)) (hw _ (List.mem_of_getElem? (i := 4) rfl)) (by decide) (by decide) hEL hC.1 G17.lt Sf16_b2__K18 (fun _ _ => trivial)) (g := (mkF m 99 #[.val (.int p0), .val (.int p1), .val (.int p2), .val (.int p3), .val (.int p4), .val (.int fr), .val (.int tt), .val (.ref b2), .unset, .unset, .unset, .unset, .unset, .unset, .unset, .unset, .unset, .unset, .unset, .unset, .unset, .unset, .unset, .unset] [(.int p2), (.int (5 : Int32)), (.int (fr + (5 : Int32))), (.ref b2)])) rfl (by rw [hml]; rfl) (argsL := [(.int (5 : Int32)), (.int p2)]) (rest := [(.int (fr + (5 : Int32))), (.ref b2)]) (lenOf pd_11 rfl) rfl (by show 2 * 0 + _ ≤ _; exact Nat.le_of_eq rfl) (hb hby at_99) (fun _ _ => ⟨rfl, e17, (by decide : 3 + 2 ≤ _), (by decide : 72 + 48 ≤ _)⟩)
          dsimp only [Pt.U, Pt.locs, Pt.cells, Pt.slots] at X183 l183 y183 z183 st183 hQ183
          subst l183 y183 z183
          dsimp only [Pt.U, Pt.locs, Pt.cells, Pt.slots] at hSq183 hgq183 hr183
          obtain ⟨X183, hS, hZ, hown⟩ := rebS hS (by rw [e17]; exact hk) X183 hSq183 hgq183 hZ hown
          have hk := Nat.le_refl T183.heap.size
          have Sf16_b2__C183 := CHr.safe hr183 G17.lt Sf16_b2__K18
          have hC := hC.trans hr183
          obtain ⟨rfl, Nq183, Kq183, LSq183⟩ := hQ183
          have N183 := Fr.app N17 Nq183
          have K184 : Keep h0 T183.heap [] := Keep.trans (ws := []) K18 Kq183 all0
          have O_184 : Old Z n0 T183.heap := O_18.keep Kq183 all0
          refine Runs.by (fun _ hr => st183.trans hr) ?_
          exact JC5 nb0 nb1 nb2 nb3 nb4 (100 : Int32) _ _ (own_up wl4 (f + 4) (nar .byte nb4)) _ _ _ _ _ X183 rfl N183 K184 O_184 hC hS hk hZ hown (G17.keep Kq183 nin0) Sf16_b2__C183 hnb0 hnb1 hnb2 hnb3 hnb4 (by decide) (by rw [hwl4]) (Or.inr (Or.inr (Or.inr ⟨rfl, rfl, LSq183, (LSu.step hSq183.1 Kq183)⟩)))
        · skip
          obtain ⟨la, lb, lk, lLi, lfE, lfC, lfV, lfA, -, -⟩ := id LSu
          show Runs p e below _ (T17.setTop (mkF m 99 #[.val (.int p0), .val (.int p1), .val (.int p2), .val (.int p3), .val (.int p4), .val (.int fr), .val (.int tt), .val (.ref b2), .unset, .unset, .unset, .unset, .unset, .unset, .unset, .unset, .unset, .unset, .unset, .unset, .unset, .unset, .unset, .unset] [(.int p2), (.int (5 : Int32)), (.int (fr + (5 : Int32))), (.ref b2)]))
          obtain ⟨_, _, ⟨T185, L185, k185, n185⟩, -, X185, hSq185, hgq185, ⟨Lc185, hQ185, l185, y185, z185, hr185⟩, st185⟩ := callSS X17 hx (y := (⟨"com/example/word_odds/wordodds/filter/VerdictFieldBeginsPinLaw", "nameByte", "(II)B"⟩ : MethodName)) hown (mvT hZ (hw _ (List.mem_of_getElem? (i := 2) rfl))) (mvT hZ (hw _ (List.mem_of_getElem? (i := 3) rfl))) (mvT hZ (hw _ (List.mem_of_getElem? (i := 4) rfl))) (mvT hZ (hw _ (List.mem_of_getElem? (i := 5) rfl))) (by decide) (own_backX (W := 2) (PX := fun vm_ => Lit (Z.setVm vm_) "com/example/word_odds/wordodds/filter/VerdictFieldBeginsPinLaw" 32 la) (rm1_32w l Z a0 hw [] (5 : Int32) p2 gC vG (68 : Int32) (68 : Int32) b2 k2 (own_up wl4 (f + 4) (nar .byte nb4)) la lb lk  h17 n0 (Nat.le_trans Z0 K18.1) (SC.ext O_18.2) cC hvG (SG.ext O_18.2) hbit5 ⟨by decide, by decide⟩ rfl (by decide) (by decide) G17 lfE lfC lfV lfA hEL) hZ (hw _ (List.mem_of_getElem? (i := 5) rfl)) (hw _ (List.mem_of_getElem? (i := 4) rfl)) (by decide) (by decide) hEL hC.1 G17.lt Sf16_b2__K18 (fun _ q => own_lstay (s := s) lLi q)) (g := (mkF m 99 #[.val (.int p0), .val (.int p1), .val (.int p2), .val (.int p3), .val (.int p4), .val (.int fr), .val (.int tt), .val (.ref b2), .unset, .unset, .unset, .unset, .unset, .unset, .unset, .unset, .unset, .unset, .unset, .unset, .unset, .unset, .unset, .unset] [(.int p2), (.int (5 : Int32)), (.int (fr + (5 : Int32))), (.ref b2)])) rfl (by rw [hml]; rfl) (argsL := [(.int (5 : Int32)), (.int p2)]) (rest := [(.int (fr + (5 : Int32))), (.ref b2)]) (lenOf pd_11 rfl) rfl (by show 2 * 0 + _ ≤ _; exact Nat.le_of_eq rfl) (hb hby at_99) (fun _ _ => ⟨rfl, e17, (by decide : 3 + 0 ≤ _), (by decide : 72 + 0 ≤ _)⟩)
          dsimp only [Pt.U, Pt.locs, Pt.cells, Pt.slots] at X185 l185 y185 z185 st185 hQ185
          subst l185 y185 z185
          dsimp only [Pt.U, Pt.locs, Pt.cells, Pt.slots] at hSq185 hgq185 hr185
          obtain ⟨X185, hS, hZ, hown⟩ := rebS hS (by rw [e17]; exact hk) X185 hSq185 hgq185 hZ hown
          have hk := Nat.le_refl T185.heap.size
          have Sf16_b2__C185 := CHr.safe hr185 G17.lt Sf16_b2__K18
          have hC := hC.trans hr185
          obtain ⟨rfl, Nq185, Kq185⟩ := hQ185
          have N185 := Fr.app N17 Nq185
          have K186 : Keep h0 T185.heap [] := Keep.trans (ws := []) K18 Kq185 all0
          have O_186 : Old Z n0 T185.heap := O_18.keep Kq185 all0
          refine Runs.by (fun _ hr => st185.trans hr) ?_
          exact JC5 nb0 nb1 nb2 nb3 nb4 (68 : Int32) _ _ (own_up wl4 (f + 4) (nar .byte nb4)) _ _ _ _ _ X185 rfl N185 K186 O_186 hC hS hk hZ hown (G17.keep Kq185 nin0) Sf16_b2__C185 hnb0 hnb1 hnb2 hnb3 hnb4 (by decide) (by rw [hwl4]) (Or.inr (Or.inr (Or.inl ⟨rfl, rfl, (LSu.step hSq185.1 Kq185)⟩)))
      · skip
        by_cases hbit5 : ((p2 >>> ((5 : Int32) &&& 31)) &&& (1 : Int32)) = (0 : Int32)
        · skip
          obtain ⟨la, lb, lk, lLi, lfE, lfC, lfV, lfA, -, -⟩ := id LSl
          show Runs p e below _ (T17.setTop (mkF m 99 #[.val (.int p0), .val (.int p1), .val (.int p2), .val (.int p3), .val (.int p4), .val (.int fr), .val (.int tt), .val (.ref b2), .unset, .unset, .unset, .unset, .unset, .unset, .unset, .unset, .unset, .unset, .unset, .unset, .unset, .unset, .unset, .unset] [(.int p2), (.int (5 : Int32)), (.int (fr + (5 : Int32))), (.ref b2)]))
          obtain ⟨_, _, ⟨T187, L187, k187, n187⟩, -, X187, hSq187, hgq187, ⟨Lc187, hQ187, l187, y187, z187, hr187⟩, st187⟩ := callSS X17 hx (y := (⟨"com/example/word_odds/wordodds/filter/VerdictFieldBeginsPinLaw", "nameByte", "(II)B"⟩ : MethodName)) hown (mvT hZ (hw _ (List.mem_of_getElem? (i := 2) rfl))) (mvT hZ (hw _ (List.mem_of_getElem? (i := 3) rfl))) (mvT hZ (hw _ (List.mem_of_getElem? (i := 4) rfl))) (mvT hZ (hw _ (List.mem_of_getElem? (i := 5) rfl))) (by decide) (own_backX (W := 2) (PX := fun vm_ => Lit (Z.setVm vm_) "com/example/word_odds/wordodds/filter/VerdictFieldBeginsPinLaw" 24 la) (rm1_24w l Z a0 hw [] (5 : Int32) p2 gC vG (100 : Int32) (100 : Int32) b2 k2 (own_up wl4 (f + 4) (nar .byte nb4)) la lb lk  h17 n0 (Nat.le_trans Z0 K18.1) (SC.ext O_18.2) cC hvG (SG.ext O_18.2) hbit5 ⟨by decide, by decide⟩ rfl (by decide) (by decide) G17 lfE lfC lfV lfA hEL) hZ (hw _ (List.mem_of_getElem? (i := 5) rfl)) (hw _ (List.mem_of_getElem? (i := 4) rfl)) (by decide) (by decide) hEL hC.1 G17.lt Sf16_b2__K18 (fun _ q => own_lstay (s := s) lLi q)) (g := (mkF m 99 #[.val (.int p0), .val (.int p1), .val (.int p2), .val (.int p3), .val (.int p4), .val (.int fr), .val (.int tt), .val (.ref b2), .unset, .unset, .unset, .unset, .unset, .unset, .unset, .unset, .unset, .unset, .unset, .unset, .unset, .unset, .unset, .unset] [(.int p2), (.int (5 : Int32)), (.int (fr + (5 : Int32))), (.ref b2)])) rfl (by rw [hml]; rfl) (argsL := [(.int (5 : Int32)), (.int p2)]) (rest := [(.int (fr + (5 : Int32))), (.ref b2)]) (lenOf pd_11 rfl) rfl (by show 2 * 0 + _ ≤ _; exact Nat.le_of_eq rfl) (hb hby at_99) (fun _ _ => ⟨rfl, e17, (by decide : 5 + 0 ≤ _), (by decide : 120 + 0 ≤ _)⟩)
          dsimp only [Pt.U, Pt.locs, Pt.cells, Pt.slots] at X187 l187 y187 z187 st187 hQ187
          subst l187 y187 z187
          dsimp only [Pt.U, Pt.locs, Pt.cells, Pt.slots] at hSq187 hgq187 hr187
          obtain ⟨X187, hS, hZ, hown⟩ := rebS hS (by rw [e17]; exact hk) X187 hSq187 hgq187 hZ hown
          have hk := Nat.le_refl T187.heap.size
          have Sf16_b2__C187 := CHr.safe hr187 G17.lt Sf16_b2__K18
          have hC := hC.trans hr187
          obtain ⟨rfl, Nq187, Kq187⟩ := hQ187
          have N187 := Fr.app N17 Nq187
          have K188 : Keep h0 T187.heap [] := Keep.trans (ws := []) K18 Kq187 all0
          have O_188 : Old Z n0 T187.heap := O_18.keep Kq187 all0
          refine Runs.by (fun _ hr => st187.trans hr) ?_
          exact JC5 nb0 nb1 nb2 nb3 nb4 (100 : Int32) _ _ (own_up wl4 (f + 4) (nar .byte nb4)) _ _ _ _ _ X187 rfl N187 K188 O_188 hC hS hk hZ hown (G17.keep Kq187 nin0) Sf16_b2__C187 hnb0 hnb1 hnb2 hnb3 hnb4 (by decide) (by rw [hwl4]) (Or.inr (Or.inr (Or.inr ⟨rfl, rfl, (LSl.step hSq187.1 Kq187), (LSu.step hSq187.1 Kq187)⟩)))
        · skip
          obtain ⟨la, lb, lk, lLi, lfE, lfC, lfV, lfA, -, -⟩ := id LSu
          show Runs p e below _ (T17.setTop (mkF m 99 #[.val (.int p0), .val (.int p1), .val (.int p2), .val (.int p3), .val (.int p4), .val (.int fr), .val (.int tt), .val (.ref b2), .unset, .unset, .unset, .unset, .unset, .unset, .unset, .unset, .unset, .unset, .unset, .unset, .unset, .unset, .unset, .unset] [(.int p2), (.int (5 : Int32)), (.int (fr + (5 : Int32))), (.ref b2)]))
          obtain ⟨_, _, ⟨T189, L189, k189, n189⟩, -, X189, hSq189, hgq189, ⟨Lc189, hQ189, l189, y189, z189, hr189⟩, st189⟩ := callSS X17 hx (y := (⟨"com/example/word_odds/wordodds/filter/VerdictFieldBeginsPinLaw", "nameByte", "(II)B"⟩ : MethodName)) hown (mvT hZ (hw _ (List.mem_of_getElem? (i := 2) rfl))) (mvT hZ (hw _ (List.mem_of_getElem? (i := 3) rfl))) (mvT hZ (hw _ (List.mem_of_getElem? (i := 4) rfl))) (mvT hZ (hw _ (List.mem_of_getElem? (i := 5) rfl))) (by decide) (own_backX (W := 2) (PX := fun vm_ => Lit (Z.setVm vm_) "com/example/word_odds/wordodds/filter/VerdictFieldBeginsPinLaw" 32 la) (rm1_32w l Z a0 hw [] (5 : Int32) p2 gC vG (68 : Int32) (68 : Int32) b2 k2 (own_up wl4 (f + 4) (nar .byte nb4)) la lb lk  h17 n0 (Nat.le_trans Z0 K18.1) (SC.ext O_18.2) cC hvG (SG.ext O_18.2) hbit5 ⟨by decide, by decide⟩ rfl (by decide) (by decide) G17 lfE lfC lfV lfA hEL) hZ (hw _ (List.mem_of_getElem? (i := 5) rfl)) (hw _ (List.mem_of_getElem? (i := 4) rfl)) (by decide) (by decide) hEL hC.1 G17.lt Sf16_b2__K18 (fun _ q => own_lstay (s := s) lLi q)) (g := (mkF m 99 #[.val (.int p0), .val (.int p1), .val (.int p2), .val (.int p3), .val (.int p4), .val (.int fr), .val (.int tt), .val (.ref b2), .unset, .unset, .unset, .unset, .unset, .unset, .unset, .unset, .unset, .unset, .unset, .unset, .unset, .unset, .unset, .unset] [(.int p2), (.int (5 : Int32)), (.int (fr + (5 : Int32))), (.ref b2)])) rfl (by rw [hml]; rfl) (argsL := [(.int (5 : Int32)), (.int p2)]) (rest := [(.int (fr + (5 : Int32))), (.ref b2)]) (lenOf pd_11 rfl) rfl (by show 2 * 0 + _ ≤ _; exact Nat.le_of_eq rfl) (hb hby at_99) (fun _ _ => ⟨rfl, e17, (by decide : 5 + 0 ≤ _), (by decide : 120 + 0 ≤ _)⟩)
          dsimp only [Pt.U, Pt.locs, Pt.cells, Pt.slots] at X189 l189 y189 z189 st189 hQ189
          subst l189 y189 z189
          dsimp only [Pt.U, Pt.locs, Pt.cells, Pt.slots] at hSq189 hgq189 hr189
          obtain ⟨X189, hS, hZ, hown⟩ := rebS hS (by rw [e17]; exact hk) X189 hSq189 hgq189 hZ hown
          have hk := Nat.le_refl T189.heap.size
          have Sf16_b2__C189 := CHr.safe hr189 G17.lt Sf16_b2__K18
          have hC := hC.trans hr189
          obtain ⟨rfl, Nq189, Kq189⟩ := hQ189
          have N189 := Fr.app N17 Nq189
          have K190 : Keep h0 T189.heap [] := Keep.trans (ws := []) K18 Kq189 all0
          have O_190 : Old Z n0 T189.heap := O_18.keep Kq189 all0
          refine Runs.by (fun _ hr => st189.trans hr) ?_
          exact JC5 nb0 nb1 nb2 nb3 nb4 (68 : Int32) _ _ (own_up wl4 (f + 4) (nar .byte nb4)) _ _ _ _ _ X189 rfl N189 K190 O_190 hC hS hk hZ hown (G17.keep Kq189 nin0) Sf16_b2__C189 hnb0 hnb1 hnb2 hnb3 hnb4 (by decide) (by rw [hwl4]) (Or.inr (Or.inr (Or.inr ⟨rfl, rfl, (LSl.step hSq189.1 Kq189), (LSu.step hSq189.1 Kq189)⟩)))
    have JC3 : ∀ (nb0 nb1 nb2 nb3 : Int32) (cJ3 sJ3 : Nat) (wl3 : Nat → Int32) (TJ13 : State) (hJ13 : Heap) (lJ13 : List Loc) (vJ13 : Vm) (kJ13 : Nat) (XJ13 : Stand p l e room_1 (s.setVm vJ13) m #[(.int p0), (.int p1), (.int p2), (.int p3), (.int p4)] below meth c TJ13 lJ13 cJ3 sJ3) (eJ13 : TJ13.heap = hJ13) (NJ13 : Fr n0 lJ13) (KJ13 : Keep h0 hJ13 []) (OJ13 : Old Z n0 hJ13) (hCJ13 : CHr Z consts_1 s.vm s.heap vJ13 hJ13) (hSJ13 : s.Since vJ13 kJ13) (hkJ13 : kJ13 ≤ hJ13.size) (hZJ13 : Z.Warmed39 vJ13) (hoJ13 : vJ13.findClass "com/example/word_odds/wordodds/filter/VerdictFieldBeginsPinLaw" = some m.cls) (fJ13_0 : Arf Z hJ13 b2 k2 .byte (24 : Int32) (fun j_ => .int (wl3 j_))) (Sf13_b2 : Safe Z consts_1 vJ13 hJ13 b2) (hnb0 : own_lc (nar .byte nb0) = (120 : Int32)) (hnb1 : own_lc (nar .byte nb1) = (45 : Int32)) (hnb2 : own_lc (nar .byte nb2) = (119 : Int32)) (hnb3 : own_lc (nar .byte nb3) = (111 : Int32)) (hwl3 : wl3 = (own_up (own_up (own_up (fun _ => (0 : Int32)) (f + 0) (nar .byte nb0)) (f + 1) (nar .byte nb1)) (f + 2) (nar .byte nb2))) (inv : own_inv Z vJ13 hJ13 b2 cJ3 sJ3), Runs p e below (QEW Z consts_1 s (Q_rm0 Z p0 p1 p2 p3 p4 gC vG lo ko h0 n0) room_1.cells room_1.slots) (TJ13.setTop (mkF m 78 #[.val (.int p0), .val (.int p1), .val (.int p2), .val (.int p3), .val (.int p4), .val (.int fr), .val (.int tt), .val (.ref b2), .unset, .unset, .unset, .unset, .unset, .unset, .unset, .unset, .unset, .unset, .unset, .unset, .unset, .unset, .unset, .unset] [(.int nb3), (.int (fr + (3 : Int32))), (.ref b2)])) := by
      intro nb0 nb1 nb2 nb3 cJ3 sJ3 wl3 TJ13 hJ13 lJ13 vJ13 kJ13 XJ13 eJ13 NJ13 KJ13 OJ13 hC hS hk hZ hown fJ13_0 Sf13_b2 hnb0 hnb1 hnb2 hnb3 hwl3 inv
      clear JC5 JC6 JC7 JC8 JC9 JC10
      show Runs p e below _ (TJ13.setTop (mkF m 78 #[.val (.int p0), .val (.int p1), .val (.int p2), .val (.int p3), .val (.int p4), .val (.int fr), .val (.int tt), .val (.ref b2), .unset, .unset, .unset, .unset, .unset, .unset, .unset, .unset, .unset, .unset, .unset, .unset, .unset, .unset, .unset, .unset] [(.int nb3), (.int (fr + (3 : Int32))), (.ref b2)]))
      obtain ⟨cl14, Ar14, q14, S14, N14', H14⟩ := id fJ13_0
      have ix14 := own_ix (j := (fr + (3 : Int32))) (z := (24 : Int32)) (n := f + 3) (own_ad hf h3 (n := 3) (by decide) (by decide)) (own_ad24 hf h3 (n := 3) (by decide) (by decide))
      have hin14 : ¬ ((fr + (3 : Int32)) < 0 ∨ cl14.slots.size ≤ ((fr + (3 : Int32))).toNatClampNeg) := inb_of S14 ix14.1
      obtain ⟨T14, h14, X14, e14, W14, st14⟩ := stB XJ13 hx hZ eJ13 Ar14 (j := (fr + (3 : Int32))) hin14 (g := (mkF m 78 #[.val (.int p0), .val (.int p1), .val (.int p2), .val (.int p3), .val (.int p4), .val (.int fr), .val (.int tt), .val (.ref b2), .unset, .unset, .unset, .unset, .unset, .unset, .unset, .unset, .unset, .unset, .unset, .unset, .unset, .unset, .unset, .unset] [(.int nb3), (.int (fr + (3 : Int32))), (.ref b2)])) rfl rfl (hb hby at_78)
      have G14 : Arf Z h14 b2 k2 .byte (24 : Int32) (fun j_ => .int ((own_up wl3 (f + 3) (nar .byte nb3)) j_)) := (Arf.set Ar14 q14 S14 N14' H14 W14 ix14.2.1).cast (fun j_ _ => own_up_map Value.int _ _ _ j_)
      have K15 : Keep h0 h14 [] := KJ13.wr W14 (Or.inr sz_b2)
      have O_15 : Old Z n0 h14 := OJ13.wr W14 g_b2
      have Sf13_b2__K15 := Safe.wr W14 Sf13_b2 hC.1 Sf13_b2
      have hk : _ ≤ h14.size := Nat.le_trans hk (Keep.of_wr W14).1
      have hC := hC.trans (CHr.wr W14 Sf13_b2 hC.1)
      have inv := inv.wr W14
      have N14 := Fr.snoc X14 NJ13 g_b2
      refine Runs.by st14 ?_
      refine Runs.by (fun _ hr => XS.aload X14.here hx rfl (hb hby at_79) rfl rfl hr) ?_
      refine Runs.by (fun _ hr => XS.iload X14.here hx rfl (hb hby at_81) rfl  hr) ?_
      show Runs p e below _ (T14.setTop (mkF m 83 #[.val (.int p0), .val (.int p1), .val (.int p2), .val (.int p3), .val (.int p4), .val (.int fr), .val (.int tt), .val (.ref b2), .unset, .unset, .unset, .unset, .unset, .unset, .unset, .unset, .unset, .unset, .unset, .unset, .unset, .unset, .unset, .unset] [(.int fr), (.ref b2)]))
      refine Runs.by (fun _ hr => XS.iconst X14.here hx rfl (hb hby at_83) hr) ?_
      refine Runs.by (fun _ hr => XS.iadd X14.here hx rfl (hb hby at_84) rfl hr) ?_
      refine Runs.by (fun _ hr => XS.iconst X14.here hx rfl (hb hby at_85) hr) ?_
      show Runs p e below _ (T14.setTop (mkF m 86 #[.val (.int p0), .val (.int p1), .val (.int p2), .val (.int p3), .val (.int p4), .val (.int fr), .val (.int tt), .val (.ref b2), .unset, .unset, .unset, .unset, .unset, .unset, .unset, .unset, .unset, .unset, .unset, .unset, .unset, .unset, .unset, .unset] [(.int (4 : Int32)), (.int (fr + (4 : Int32))), (.ref b2)]))
      refine Runs.by (fun _ hr => XS.iloadN X14.here hx rfl (hb hby at_86) rfl  hr) ?_
      rcases inv with ⟨rfl, rfl⟩ | ⟨rfl, rfl, LSl⟩ | ⟨rfl, rfl, LSu⟩ | ⟨rfl, rfl, LSl, LSu⟩
      · skip
        by_cases hbit4 : ((p2 >>> ((4 : Int32) &&& 31)) &&& (1 : Int32)) = (0 : Int32)
        · skip
          show Runs p e below _ (T14.setTop (mkF m 87 #[.val (.int p0), .val (.int p1), .val (.int p2), .val (.int p3), .val (.int p4), .val (.int fr), .val (.int tt), .val (.ref b2), .unset, .unset, .unset, .unset, .unset, .unset, .unset, .unset, .unset, .unset, .unset, .unset, .unset, .unset, .unset, .unset] [(.int p2), (.int (4 : Int32)), (.int (fr + (4 : Int32))), (.ref b2)]))
          obtain ⟨_, _, ⟨T191, L191, k191, n191⟩, -, X191, hSq191, hgq191, ⟨Lc191, hQ191, l191, y191, z191, hr191⟩, st191⟩ := callSS X14 hx (y := (⟨"com/example/word_odds/wordodds/filter/VerdictFieldBeginsPinLaw", "nameByte", "(II)B"⟩ : MethodName)) hown (mvT hZ (hw _ (List.mem_of_getElem? (i := 2) rfl))) (mvT hZ (hw _ (List.mem_of_getElem? (i := 3) rfl))) (mvT hZ (hw _ (List.mem_of_getElem? (i := 4) rfl))) (mvT hZ (hw _ (List.mem_of_getElem? (i := 5) rfl))) (by decide) (own_backX (W := 2) (PX := fun _ => True) (rm1_24c l Z a0 hw [] (4 : Int32) p2 gC vG (114 : Int32) (114 : Int32) b2 k2 (own_up wl3 (f + 3) (nar .byte nb3))  h14 n0 (Nat.le_trans Z0 K15.1) (SC.ext O_15.2) cC hvG (SG.ext O_15.2) hbit4 ⟨by decide, by decide⟩ rfl (by decide) (by decide) G14 hEL) hZ (hw _ (List.mem_of_getElem? (i := 5) rfl)) (hw _ (List.mem_of_getElem? (i := 4) rfl)) (by decide) (by decide) hEL hC.1 G14.lt Sf13_b2__K15 (fun _ _ => trivial)) (g := (mkF m 87 #[.val (.int p0), .val (.int p1), .val (.int p2), .val (.int p3), .val (.int p4), .val (.int fr), .val (.int tt), .val (.ref b2), .unset, .unset, .unset, .unset, .unset, .unset, .unset, .unset, .unset, .unset, .unset, .unset, .unset, .unset, .unset, .unset] [(.int p2), (.int (4 : Int32)), (.int (fr + (4 : Int32))), (.ref b2)])) rfl (by rw [hml]; rfl) (argsL := [(.int (4 : Int32)), (.int p2)]) (rest := [(.int (fr + (4 : Int32))), (.ref b2)]) (lenOf pd_11 rfl) rfl (by show 2 * 0 + _ ≤ _; exact Nat.le_of_eq rfl) (hb hby at_87) (fun _ _ => ⟨rfl, e14, (by decide : 1 + 2 ≤ _), (by decide : 24 + 48 ≤ _)⟩)
          dsimp only [Pt.U, Pt.locs, Pt.cells, Pt.slots] at X191 l191 y191 z191 st191 hQ191
          subst l191 y191 z191
          dsimp only [Pt.U, Pt.locs, Pt.cells, Pt.slots] at hSq191 hgq191 hr191
          obtain ⟨X191, hS, hZ, hown⟩ := rebS hS (by rw [e14]; exact hk) X191 hSq191 hgq191 hZ hown
          have hk := Nat.le_refl T191.heap.size
          have Sf13_b2__C191 := CHr.safe hr191 G14.lt Sf13_b2__K15
          have hC := hC.trans hr191
          obtain ⟨rfl, Nq191, Kq191, LSq191⟩ := hQ191
          have N191 := Fr.app N14 Nq191
          have K192 : Keep h0 T191.heap [] := Keep.trans (ws := []) K15 Kq191 all0
          have O_192 : Old Z n0 T191.heap := O_15.keep Kq191 all0
          refine Runs.by (fun _ hr => st191.trans hr) ?_
          exact JC4 nb0 nb1 nb2 nb3 (114 : Int32) _ _ (own_up wl3 (f + 3) (nar .byte nb3)) _ _ _ _ _ X191 rfl N191 K192 O_192 hC hS hk hZ hown (G14.keep Kq191 nin0) Sf13_b2__C191 hnb0 hnb1 hnb2 hnb3 (by decide) (by rw [hwl3]) (Or.inr (Or.inl ⟨rfl, rfl, LSq191⟩))
        · skip
          show Runs p e below _ (T14.setTop (mkF m 87 #[.val (.int p0), .val (.int p1), .val (.int p2), .val (.int p3), .val (.int p4), .val (.int fr), .val (.int tt), .val (.ref b2), .unset, .unset, .unset, .unset, .unset, .unset, .unset, .unset, .unset, .unset, .unset, .unset, .unset, .unset, .unset, .unset] [(.int p2), (.int (4 : Int32)), (.int (fr + (4 : Int32))), (.ref b2)]))
          obtain ⟨_, _, ⟨T193, L193, k193, n193⟩, -, X193, hSq193, hgq193, ⟨Lc193, hQ193, l193, y193, z193, hr193⟩, st193⟩ := callSS X14 hx (y := (⟨"com/example/word_odds/wordodds/filter/VerdictFieldBeginsPinLaw", "nameByte", "(II)B"⟩ : MethodName)) hown (mvT hZ (hw _ (List.mem_of_getElem? (i := 2) rfl))) (mvT hZ (hw _ (List.mem_of_getElem? (i := 3) rfl))) (mvT hZ (hw _ (List.mem_of_getElem? (i := 4) rfl))) (mvT hZ (hw _ (List.mem_of_getElem? (i := 5) rfl))) (by decide) (own_backX (W := 2) (PX := fun _ => True) (rm1_32c l Z a0 hw [] (4 : Int32) p2 gC vG (82 : Int32) (82 : Int32) b2 k2 (own_up wl3 (f + 3) (nar .byte nb3))  h14 n0 (Nat.le_trans Z0 K15.1) (SC.ext O_15.2) cC hvG (SG.ext O_15.2) hbit4 ⟨by decide, by decide⟩ rfl (by decide) (by decide) G14 hEL) hZ (hw _ (List.mem_of_getElem? (i := 5) rfl)) (hw _ (List.mem_of_getElem? (i := 4) rfl)) (by decide) (by decide) hEL hC.1 G14.lt Sf13_b2__K15 (fun _ _ => trivial)) (g := (mkF m 87 #[.val (.int p0), .val (.int p1), .val (.int p2), .val (.int p3), .val (.int p4), .val (.int fr), .val (.int tt), .val (.ref b2), .unset, .unset, .unset, .unset, .unset, .unset, .unset, .unset, .unset, .unset, .unset, .unset, .unset, .unset, .unset, .unset] [(.int p2), (.int (4 : Int32)), (.int (fr + (4 : Int32))), (.ref b2)])) rfl (by rw [hml]; rfl) (argsL := [(.int (4 : Int32)), (.int p2)]) (rest := [(.int (fr + (4 : Int32))), (.ref b2)]) (lenOf pd_11 rfl) rfl (by show 2 * 0 + _ ≤ _; exact Nat.le_of_eq rfl) (hb hby at_87) (fun _ _ => ⟨rfl, e14, (by decide : 1 + 2 ≤ _), (by decide : 24 + 48 ≤ _)⟩)
          dsimp only [Pt.U, Pt.locs, Pt.cells, Pt.slots] at X193 l193 y193 z193 st193 hQ193
          subst l193 y193 z193
          dsimp only [Pt.U, Pt.locs, Pt.cells, Pt.slots] at hSq193 hgq193 hr193
          obtain ⟨X193, hS, hZ, hown⟩ := rebS hS (by rw [e14]; exact hk) X193 hSq193 hgq193 hZ hown
          have hk := Nat.le_refl T193.heap.size
          have Sf13_b2__C193 := CHr.safe hr193 G14.lt Sf13_b2__K15
          have hC := hC.trans hr193
          obtain ⟨rfl, Nq193, Kq193, LSq193⟩ := hQ193
          have N193 := Fr.app N14 Nq193
          have K194 : Keep h0 T193.heap [] := Keep.trans (ws := []) K15 Kq193 all0
          have O_194 : Old Z n0 T193.heap := O_15.keep Kq193 all0
          refine Runs.by (fun _ hr => st193.trans hr) ?_
          exact JC4 nb0 nb1 nb2 nb3 (82 : Int32) _ _ (own_up wl3 (f + 3) (nar .byte nb3)) _ _ _ _ _ X193 rfl N193 K194 O_194 hC hS hk hZ hown (G14.keep Kq193 nin0) Sf13_b2__C193 hnb0 hnb1 hnb2 hnb3 (by decide) (by rw [hwl3]) (Or.inr (Or.inr (Or.inl ⟨rfl, rfl, LSq193⟩)))
      · skip
        by_cases hbit4 : ((p2 >>> ((4 : Int32) &&& 31)) &&& (1 : Int32)) = (0 : Int32)
        · skip
          obtain ⟨la, lb, lk, lLi, lfE, lfC, lfV, lfA, -, -⟩ := id LSl
          show Runs p e below _ (T14.setTop (mkF m 87 #[.val (.int p0), .val (.int p1), .val (.int p2), .val (.int p3), .val (.int p4), .val (.int fr), .val (.int tt), .val (.ref b2), .unset, .unset, .unset, .unset, .unset, .unset, .unset, .unset, .unset, .unset, .unset, .unset, .unset, .unset, .unset, .unset] [(.int p2), (.int (4 : Int32)), (.int (fr + (4 : Int32))), (.ref b2)]))
          obtain ⟨_, _, ⟨T195, L195, k195, n195⟩, -, X195, hSq195, hgq195, ⟨Lc195, hQ195, l195, y195, z195, hr195⟩, st195⟩ := callSS X14 hx (y := (⟨"com/example/word_odds/wordodds/filter/VerdictFieldBeginsPinLaw", "nameByte", "(II)B"⟩ : MethodName)) hown (mvT hZ (hw _ (List.mem_of_getElem? (i := 2) rfl))) (mvT hZ (hw _ (List.mem_of_getElem? (i := 3) rfl))) (mvT hZ (hw _ (List.mem_of_getElem? (i := 4) rfl))) (mvT hZ (hw _ (List.mem_of_getElem? (i := 5) rfl))) (by decide) (own_backX (W := 2) (PX := fun vm_ => Lit (Z.setVm vm_) "com/example/word_odds/wordodds/filter/VerdictFieldBeginsPinLaw" 24 la) (rm1_24w l Z a0 hw [] (4 : Int32) p2 gC vG (114 : Int32) (114 : Int32) b2 k2 (own_up wl3 (f + 3) (nar .byte nb3)) la lb lk  h14 n0 (Nat.le_trans Z0 K15.1) (SC.ext O_15.2) cC hvG (SG.ext O_15.2) hbit4 ⟨by decide, by decide⟩ rfl (by decide) (by decide) G14 lfE lfC lfV lfA hEL) hZ (hw _ (List.mem_of_getElem? (i := 5) rfl)) (hw _ (List.mem_of_getElem? (i := 4) rfl)) (by decide) (by decide) hEL hC.1 G14.lt Sf13_b2__K15 (fun _ q => own_lstay (s := s) lLi q)) (g := (mkF m 87 #[.val (.int p0), .val (.int p1), .val (.int p2), .val (.int p3), .val (.int p4), .val (.int fr), .val (.int tt), .val (.ref b2), .unset, .unset, .unset, .unset, .unset, .unset, .unset, .unset, .unset, .unset, .unset, .unset, .unset, .unset, .unset, .unset] [(.int p2), (.int (4 : Int32)), (.int (fr + (4 : Int32))), (.ref b2)])) rfl (by rw [hml]; rfl) (argsL := [(.int (4 : Int32)), (.int p2)]) (rest := [(.int (fr + (4 : Int32))), (.ref b2)]) (lenOf pd_11 rfl) rfl (by show 2 * 0 + _ ≤ _; exact Nat.le_of_eq rfl) (hb hby at_87) (fun _ _ => ⟨rfl, e14, (by decide : 3 + 0 ≤ _), (by decide : 72 + 0 ≤ _)⟩)
          dsimp only [Pt.U, Pt.locs, Pt.cells, Pt.slots] at X195 l195 y195 z195 st195 hQ195
          subst l195 y195 z195
          dsimp only [Pt.U, Pt.locs, Pt.cells, Pt.slots] at hSq195 hgq195 hr195
          obtain ⟨X195, hS, hZ, hown⟩ := rebS hS (by rw [e14]; exact hk) X195 hSq195 hgq195 hZ hown
          have hk := Nat.le_refl T195.heap.size
          have Sf13_b2__C195 := CHr.safe hr195 G14.lt Sf13_b2__K15
          have hC := hC.trans hr195
          obtain ⟨rfl, Nq195, Kq195⟩ := hQ195
          have N195 := Fr.app N14 Nq195
          have K196 : Keep h0 T195.heap [] := Keep.trans (ws := []) K15 Kq195 all0
          have O_196 : Old Z n0 T195.heap := O_15.keep Kq195 all0
          refine Runs.by (fun _ hr => st195.trans hr) ?_
          exact JC4 nb0 nb1 nb2 nb3 (114 : Int32) _ _ (own_up wl3 (f + 3) (nar .byte nb3)) _ _ _ _ _ X195 rfl N195 K196 O_196 hC hS hk hZ hown (G14.keep Kq195 nin0) Sf13_b2__C195 hnb0 hnb1 hnb2 hnb3 (by decide) (by rw [hwl3]) (Or.inr (Or.inl ⟨rfl, rfl, (LSl.step hSq195.1 Kq195)⟩))
        · skip
          show Runs p e below _ (T14.setTop (mkF m 87 #[.val (.int p0), .val (.int p1), .val (.int p2), .val (.int p3), .val (.int p4), .val (.int fr), .val (.int tt), .val (.ref b2), .unset, .unset, .unset, .unset, .unset, .unset, .unset, .unset, .unset, .unset, .unset, .unset, .unset, .unset, .unset, .unset] [(.int p2), (.int (4 : Int32)), (.int (fr + (4 : Int32))), (.ref b2)]))
          obtain ⟨_, _, ⟨T197, L197, k197, n197⟩, -, X197, hSq197, hgq197, ⟨Lc197, hQ197, l197, y197, z197, hr197⟩, st197⟩ := callSS X14 hx (y := (⟨"com/example/word_odds/wordodds/filter/VerdictFieldBeginsPinLaw", "nameByte", "(II)B"⟩ : MethodName)) hown (mvT hZ (hw _ (List.mem_of_getElem? (i := 2) rfl))) (mvT hZ (hw _ (List.mem_of_getElem? (i := 3) rfl))) (mvT hZ (hw _ (List.mem_of_getElem? (i := 4) rfl))) (mvT hZ (hw _ (List.mem_of_getElem? (i := 5) rfl))) (by decide) (own_backX (W := 2) (PX := fun _ => True) (rm1_32c l Z a0 hw [] (4 : Int32) p2 gC vG (82 : Int32) (82 : Int32) b2 k2 (own_up wl3 (f + 3) (nar .byte nb3))  h14 n0 (Nat.le_trans Z0 K15.1) (SC.ext O_15.2) cC hvG (SG.ext O_15.2) hbit4 ⟨by decide, by decide⟩ rfl (by decide) (by decide) G14 hEL) hZ (hw _ (List.mem_of_getElem? (i := 5) rfl)) (hw _ (List.mem_of_getElem? (i := 4) rfl)) (by decide) (by decide) hEL hC.1 G14.lt Sf13_b2__K15 (fun _ _ => trivial)) (g := (mkF m 87 #[.val (.int p0), .val (.int p1), .val (.int p2), .val (.int p3), .val (.int p4), .val (.int fr), .val (.int tt), .val (.ref b2), .unset, .unset, .unset, .unset, .unset, .unset, .unset, .unset, .unset, .unset, .unset, .unset, .unset, .unset, .unset, .unset] [(.int p2), (.int (4 : Int32)), (.int (fr + (4 : Int32))), (.ref b2)])) rfl (by rw [hml]; rfl) (argsL := [(.int (4 : Int32)), (.int p2)]) (rest := [(.int (fr + (4 : Int32))), (.ref b2)]) (lenOf pd_11 rfl) rfl (by show 2 * 0 + _ ≤ _; exact Nat.le_of_eq rfl) (hb hby at_87) (fun _ _ => ⟨rfl, e14, (by decide : 3 + 2 ≤ _), (by decide : 72 + 48 ≤ _)⟩)
          dsimp only [Pt.U, Pt.locs, Pt.cells, Pt.slots] at X197 l197 y197 z197 st197 hQ197
          subst l197 y197 z197
          dsimp only [Pt.U, Pt.locs, Pt.cells, Pt.slots] at hSq197 hgq197 hr197
          obtain ⟨X197, hS, hZ, hown⟩ := rebS hS (by rw [e14]; exact hk) X197 hSq197 hgq197 hZ hown
          have hk := Nat.le_refl T197.heap.size
          have Sf13_b2__C197 := CHr.safe hr197 G14.lt Sf13_b2__K15
          have hC := hC.trans hr197
          obtain ⟨rfl, Nq197, Kq197, LSq197⟩ := hQ197
          have N197 := Fr.app N14 Nq197
          have K198 : Keep h0 T197.heap [] := Keep.trans (ws := []) K15 Kq197 all0
          have O_198 : Old Z n0 T197.heap := O_15.keep Kq197 all0
          refine Runs.by (fun _ hr => st197.trans hr) ?_
          exact JC4 nb0 nb1 nb2 nb3 (82 : Int32) _ _ (own_up wl3 (f + 3) (nar .byte nb3)) _ _ _ _ _ X197 rfl N197 K198 O_198 hC hS hk hZ hown (G14.keep Kq197 nin0) Sf13_b2__C197 hnb0 hnb1 hnb2 hnb3 (by decide) (by rw [hwl3]) (Or.inr (Or.inr (Or.inr ⟨rfl, rfl, (LSl.step hSq197.1 Kq197), LSq197⟩)))
      · skip
        by_cases hbit4 : ((p2 >>> ((4 : Int32) &&& 31)) &&& (1 : Int32)) = (0 : Int32)
        · skip
          show Runs p e below _ (T14.setTop (mkF m 87 #[.val (.int p0), .val (.int p1), .val (.int p2), .val (.int p3), .val (.int p4), .val (.int fr), .val (.int tt), .val (.ref b2), .unset, .unset, .unset, .unset, .unset, .unset, .unset, .unset, .unset, .unset, .unset, .unset, .unset, .unset, .unset, .unset] [(.int p2), (.int (4 : Int32)), (.int (fr + (4 : Int32))), (.ref b2)]))
          obtain ⟨_, _, ⟨T199, L199, k199, n199⟩, -, X199, hSq199, hgq199, ⟨Lc199, hQ199, l199, y199, z199, hr199⟩, st199⟩ := callSS X14 hx (y := (⟨"com/example/word_odds/wordodds/filter/VerdictFieldBeginsPinLaw", "nameByte", "(II)B"⟩ : MethodName)) hown (mvT hZ (hw _ (List.mem_of_getElem? (i := 2) rfl))) (mvT hZ (hw _ (List.mem_of_getElem? (i := 3) rfl))) (mvT hZ (hw _ (List.mem_of_getElem? (i := 4) rfl))) (mvT hZ (hw _ (List.mem_of_getElem? (i := 5) rfl))) (by decide) (own_backX (W := 2) (PX := fun _ => True) (rm1_24c l Z a0 hw [] (4 : Int32) p2 gC vG (114 : Int32) (114 : Int32) b2 k2 (own_up wl3 (f + 3) (nar .byte nb3))  h14 n0 (Nat.le_trans Z0 K15.1) (SC.ext O_15.2) cC hvG (SG.ext O_15.2) hbit4 ⟨by decide, by decide⟩ rfl (by decide) (by decide) G14 hEL) hZ (hw _ (List.mem_of_getElem? (i := 5) rfl)) (hw _ (List.mem_of_getElem? (i := 4) rfl)) (by decide) (by decide) hEL hC.1 G14.lt Sf13_b2__K15 (fun _ _ => trivial)) (g := (mkF m 87 #[.val (.int p0), .val (.int p1), .val (.int p2), .val (.int p3), .val (.int p4), .val (.int fr), .val (.int tt), .val (.ref b2), .unset, .unset, .unset, .unset, .unset, .unset, .unset, .unset, .unset, .unset, .unset, .unset, .unset, .unset, .unset, .unset] [(.int p2), (.int (4 : Int32)), (.int (fr + (4 : Int32))), (.ref b2)])) rfl (by rw [hml]; rfl) (argsL := [(.int (4 : Int32)), (.int p2)]) (rest := [(.int (fr + (4 : Int32))), (.ref b2)]) (lenOf pd_11 rfl) rfl (by show 2 * 0 + _ ≤ _; exact Nat.le_of_eq rfl) (hb hby at_87) (fun _ _ => ⟨rfl, e14, (by decide : 3 + 2 ≤ _), (by decide : 72 + 48 ≤ _)⟩)
          dsimp only [Pt.U, Pt.locs, Pt.cells, Pt.slots] at X199 l199 y199 z199 st199 hQ199
          subst l199 y199 z199
          dsimp only [Pt.U, Pt.locs, Pt.cells, Pt.slots] at hSq199 hgq199 hr199
          obtain ⟨X199, hS, hZ, hown⟩ := rebS hS (by rw [e14]; exact hk) X199 hSq199 hgq199 hZ hown
          have hk := Nat.le_refl T199.heap.size
          have Sf13_b2__C199 := CHr.safe hr199 G14.lt Sf13_b2__K15
          have hC := hC.trans hr199
          obtain ⟨rfl, Nq199, Kq199, LSq199⟩ := hQ199
          have N199 := Fr.app N14 Nq199
          have K200 : Keep h0 T199.heap [] := Keep.trans (ws := []) K15 Kq199 all0
          have O_200 : Old Z n0 T199.heap := O_15.keep Kq199 all0
          refine Runs.by (fun _ hr => st199.trans hr) ?_
          exact JC4 nb0 nb1 nb2 nb3 (114 : Int32) _ _ (own_up wl3 (f + 3) (nar .byte nb3)) _ _ _ _ _ X199 rfl N199 K200 O_200 hC hS hk hZ hown (G14.keep Kq199 nin0) Sf13_b2__C199 hnb0 hnb1 hnb2 hnb3 (by decide) (by rw [hwl3]) (Or.inr (Or.inr (Or.inr ⟨rfl, rfl, LSq199, (LSu.step hSq199.1 Kq199)⟩)))
        · skip
          obtain ⟨la, lb, lk, lLi, lfE, lfC, lfV, lfA, -, -⟩ := id LSu
          show Runs p e below _ (T14.setTop (mkF m 87 #[.val (.int p0), .val (.int p1), .val (.int p2), .val (.int p3), .val (.int p4), .val (.int fr), .val (.int tt), .val (.ref b2), .unset, .unset, .unset, .unset, .unset, .unset, .unset, .unset, .unset, .unset, .unset, .unset, .unset, .unset, .unset, .unset] [(.int p2), (.int (4 : Int32)), (.int (fr + (4 : Int32))), (.ref b2)]))
          obtain ⟨_, _, ⟨T201, L201, k201, n201⟩, -, X201, hSq201, hgq201, ⟨Lc201, hQ201, l201, y201, z201, hr201⟩, st201⟩ := callSS X14 hx (y := (⟨"com/example/word_odds/wordodds/filter/VerdictFieldBeginsPinLaw", "nameByte", "(II)B"⟩ : MethodName)) hown (mvT hZ (hw _ (List.mem_of_getElem? (i := 2) rfl))) (mvT hZ (hw _ (List.mem_of_getElem? (i := 3) rfl))) (mvT hZ (hw _ (List.mem_of_getElem? (i := 4) rfl))) (mvT hZ (hw _ (List.mem_of_getElem? (i := 5) rfl))) (by decide) (own_backX (W := 2) (PX := fun vm_ => Lit (Z.setVm vm_) "com/example/word_odds/wordodds/filter/VerdictFieldBeginsPinLaw" 32 la) (rm1_32w l Z a0 hw [] (4 : Int32) p2 gC vG (82 : Int32) (82 : Int32) b2 k2 (own_up wl3 (f + 3) (nar .byte nb3)) la lb lk  h14 n0 (Nat.le_trans Z0 K15.1) (SC.ext O_15.2) cC hvG (SG.ext O_15.2) hbit4 ⟨by decide, by decide⟩ rfl (by decide) (by decide) G14 lfE lfC lfV lfA hEL) hZ (hw _ (List.mem_of_getElem? (i := 5) rfl)) (hw _ (List.mem_of_getElem? (i := 4) rfl)) (by decide) (by decide) hEL hC.1 G14.lt Sf13_b2__K15 (fun _ q => own_lstay (s := s) lLi q)) (g := (mkF m 87 #[.val (.int p0), .val (.int p1), .val (.int p2), .val (.int p3), .val (.int p4), .val (.int fr), .val (.int tt), .val (.ref b2), .unset, .unset, .unset, .unset, .unset, .unset, .unset, .unset, .unset, .unset, .unset, .unset, .unset, .unset, .unset, .unset] [(.int p2), (.int (4 : Int32)), (.int (fr + (4 : Int32))), (.ref b2)])) rfl (by rw [hml]; rfl) (argsL := [(.int (4 : Int32)), (.int p2)]) (rest := [(.int (fr + (4 : Int32))), (.ref b2)]) (lenOf pd_11 rfl) rfl (by show 2 * 0 + _ ≤ _; exact Nat.le_of_eq rfl) (hb hby at_87) (fun _ _ => ⟨rfl, e14, (by decide : 3 + 0 ≤ _), (by decide : 72 + 0 ≤ _)⟩)
          dsimp only [Pt.U, Pt.locs, Pt.cells, Pt.slots] at X201 l201 y201 z201 st201 hQ201
          subst l201 y201 z201
          dsimp only [Pt.U, Pt.locs, Pt.cells, Pt.slots] at hSq201 hgq201 hr201
          obtain ⟨X201, hS, hZ, hown⟩ := rebS hS (by rw [e14]; exact hk) X201 hSq201 hgq201 hZ hown
          have hk := Nat.le_refl T201.heap.size
          have Sf13_b2__C201 := CHr.safe hr201 G14.lt Sf13_b2__K15
          have hC := hC.trans hr201
          obtain ⟨rfl, Nq201, Kq201⟩ := hQ201
          have N201 := Fr.app N14 Nq201
          have K202 : Keep h0 T201.heap [] := Keep.trans (ws := []) K15 Kq201 all0
          have O_202 : Old Z n0 T201.heap := O_15.keep Kq201 all0
          refine Runs.by (fun _ hr => st201.trans hr) ?_
          exact JC4 nb0 nb1 nb2 nb3 (82 : Int32) _ _ (own_up wl3 (f + 3) (nar .byte nb3)) _ _ _ _ _ X201 rfl N201 K202 O_202 hC hS hk hZ hown (G14.keep Kq201 nin0) Sf13_b2__C201 hnb0 hnb1 hnb2 hnb3 (by decide) (by rw [hwl3]) (Or.inr (Or.inr (Or.inl ⟨rfl, rfl, (LSu.step hSq201.1 Kq201)⟩)))
      · skip
        by_cases hbit4 : ((p2 >>> ((4 : Int32) &&& 31)) &&& (1 : Int32)) = (0 : Int32)
        · skip
          obtain ⟨la, lb, lk, lLi, lfE, lfC, lfV, lfA, -, -⟩ := id LSl
          show Runs p e below _ (T14.setTop (mkF m 87 #[.val (.int p0), .val (.int p1), .val (.int p2), .val (.int p3), .val (.int p4), .val (.int fr), .val (.int tt), .val (.ref b2), .unset, .unset, .unset, .unset, .unset, .unset, .unset, .unset, .unset, .unset, .unset, .unset, .unset, .unset, .unset, .unset] [(.int p2), (.int (4 : Int32)), (.int (fr + (4 : Int32))), (.ref b2)]))
          obtain ⟨_, _, ⟨T203, L203, k203, n203⟩, -, X203, hSq203, hgq203, ⟨Lc203, hQ203, l203, y203, z203, hr203⟩, st203⟩ := callSS X14 hx (y := (⟨"com/example/word_odds/wordodds/filter/VerdictFieldBeginsPinLaw", "nameByte", "(II)B"⟩ : MethodName)) hown (mvT hZ (hw _ (List.mem_of_getElem? (i := 2) rfl))) (mvT hZ (hw _ (List.mem_of_getElem? (i := 3) rfl))) (mvT hZ (hw _ (List.mem_of_getElem? (i := 4) rfl))) (mvT hZ (hw _ (List.mem_of_getElem? (i := 5) rfl))) (by decide) (own_backX (W := 2) (PX := fun vm_ => Lit (Z.setVm vm_) "com/example/word_odds/wordodds/filter/VerdictFieldBeginsPinLaw" 24 la) (rm1_24w l Z a0 hw [] (4 : Int32) p2 gC vG (114 : Int32) (114 : Int32) b2 k2 (own_up wl3 (f + 3) (nar .byte nb3)) la lb lk  h14 n0 (Nat.le_trans Z0 K15.1) (SC.ext O_15.2) cC hvG (SG.ext O_15.2) hbit4 ⟨by decide, by decide⟩ rfl (by decide) (by decide) G14 lfE lfC lfV lfA hEL) hZ (hw _ (List.mem_of_getElem? (i := 5) rfl)) (hw _ (List.mem_of_getElem? (i := 4) rfl)) (by decide) (by decide) hEL hC.1 G14.lt Sf13_b2__K15 (fun _ q => own_lstay (s := s) lLi q)) (g := (mkF m 87 #[.val (.int p0), .val (.int p1), .val (.int p2), .val (.int p3), .val (.int p4), .val (.int fr), .val (.int tt), .val (.ref b2), .unset, .unset, .unset, .unset, .unset, .unset, .unset, .unset, .unset, .unset, .unset, .unset, .unset, .unset, .unset, .unset] [(.int p2), (.int (4 : Int32)), (.int (fr + (4 : Int32))), (.ref b2)])) rfl (by rw [hml]; rfl) (argsL := [(.int (4 : Int32)), (.int p2)]) (rest := [(.int (fr + (4 : Int32))), (.ref b2)]) (lenOf pd_11 rfl) rfl (by show 2 * 0 + _ ≤ _; exact Nat.le_of_eq rfl) (hb hby at_87) (fun _ _ => ⟨rfl, e14, (by decide : 5 + 0 ≤ _), (by decide : 120 + 0 ≤ _)⟩)
          dsimp only [Pt.U, Pt.locs, Pt.cells, Pt.slots] at X203 l203 y203 z203 st203 hQ203
          subst l203 y203 z203
          dsimp only [Pt.U, Pt.locs, Pt.cells, Pt.slots] at hSq203 hgq203 hr203
          obtain ⟨X203, hS, hZ, hown⟩ := rebS hS (by rw [e14]; exact hk) X203 hSq203 hgq203 hZ hown
          have hk := Nat.le_refl T203.heap.size
          have Sf13_b2__C203 := CHr.safe hr203 G14.lt Sf13_b2__K15
          have hC := hC.trans hr203
          obtain ⟨rfl, Nq203, Kq203⟩ := hQ203
          have N203 := Fr.app N14 Nq203
          have K204 : Keep h0 T203.heap [] := Keep.trans (ws := []) K15 Kq203 all0
          have O_204 : Old Z n0 T203.heap := O_15.keep Kq203 all0
          refine Runs.by (fun _ hr => st203.trans hr) ?_
          exact JC4 nb0 nb1 nb2 nb3 (114 : Int32) _ _ (own_up wl3 (f + 3) (nar .byte nb3)) _ _ _ _ _ X203 rfl N203 K204 O_204 hC hS hk hZ hown (G14.keep Kq203 nin0) Sf13_b2__C203 hnb0 hnb1 hnb2 hnb3 (by decide) (by rw [hwl3]) (Or.inr (Or.inr (Or.inr ⟨rfl, rfl, (LSl.step hSq203.1 Kq203), (LSu.step hSq203.1 Kq203)⟩)))
        · skip
          obtain ⟨la, lb, lk, lLi, lfE, lfC, lfV, lfA, -, -⟩ := id LSu
          show Runs p e below _ (T14.setTop (mkF m 87 #[.val (.int p0), .val (.int p1), .val (.int p2), .val (.int p3), .val (.int p4), .val (.int fr), .val (.int tt), .val (.ref b2), .unset, .unset, .unset, .unset, .unset, .unset, .unset, .unset, .unset, .unset, .unset, .unset, .unset, .unset, .unset, .unset] [(.int p2), (.int (4 : Int32)), (.int (fr + (4 : Int32))), (.ref b2)]))
          obtain ⟨_, _, ⟨T205, L205, k205, n205⟩, -, X205, hSq205, hgq205, ⟨Lc205, hQ205, l205, y205, z205, hr205⟩, st205⟩ := callSS X14 hx (y := (⟨"com/example/word_odds/wordodds/filter/VerdictFieldBeginsPinLaw", "nameByte", "(II)B"⟩ : MethodName)) hown (mvT hZ (hw _ (List.mem_of_getElem? (i := 2) rfl))) (mvT hZ (hw _ (List.mem_of_getElem? (i := 3) rfl))) (mvT hZ (hw _ (List.mem_of_getElem? (i := 4) rfl))) (mvT hZ (hw _ (List.mem_of_getElem? (i := 5) rfl))) (by decide) (own_backX (W := 2) (PX := fun vm_ => Lit (Z.setVm vm_) "com/example/word_odds/wordodds/filter/VerdictFieldBeginsPinLaw" 32 la) (rm1_32w l Z a0 hw [] (4 : Int32) p2 gC vG (82 : Int32) (82 : Int32) b2 k2 (own_up wl3 (f + 3) (nar .byte nb3)) la lb lk  h14 n0 (Nat.le_trans Z0 K15.1) (SC.ext O_15.2) cC hvG (SG.ext O_15.2) hbit4 ⟨by decide, by decide⟩ rfl (by decide) (by decide) G14 lfE lfC lfV lfA hEL) hZ (hw _ (List.mem_of_getElem? (i := 5) rfl)) (hw _ (List.mem_of_getElem? (i := 4) rfl)) (by decide) (by decide) hEL hC.1 G14.lt Sf13_b2__K15 (fun _ q => own_lstay (s := s) lLi q)) (g := (mkF m 87 #[.val (.int p0), .val (.int p1), .val (.int p2), .val (.int p3), .val (.int p4), .val (.int fr), .val (.int tt), .val (.ref b2), .unset, .unset, .unset, .unset, .unset, .unset, .unset, .unset, .unset, .unset, .unset, .unset, .unset, .unset, .unset, .unset] [(.int p2), (.int (4 : Int32)), (.int (fr + (4 : Int32))), (.ref b2)])) rfl (by rw [hml]; rfl) (argsL := [(.int (4 : Int32)), (.int p2)]) (rest := [(.int (fr + (4 : Int32))), (.ref b2)]) (lenOf pd_11 rfl) rfl (by show 2 * 0 + _ ≤ _; exact Nat.le_of_eq rfl) (hb hby at_87) (fun _ _ => ⟨rfl, e14, (by decide : 5 + 0 ≤ _), (by decide : 120 + 0 ≤ _)⟩)
          dsimp only [Pt.U, Pt.locs, Pt.cells, Pt.slots] at X205 l205 y205 z205 st205 hQ205
          subst l205 y205 z205
          dsimp only [Pt.U, Pt.locs, Pt.cells, Pt.slots] at hSq205 hgq205 hr205
          obtain ⟨X205, hS, hZ, hown⟩ := rebS hS (by rw [e14]; exact hk) X205 hSq205 hgq205 hZ hown
          have hk := Nat.le_refl T205.heap.size
          have Sf13_b2__C205 := CHr.safe hr205 G14.lt Sf13_b2__K15
          have hC := hC.trans hr205
          obtain ⟨rfl, Nq205, Kq205⟩ := hQ205
          have N205 := Fr.app N14 Nq205
          have K206 : Keep h0 T205.heap [] := Keep.trans (ws := []) K15 Kq205 all0
          have O_206 : Old Z n0 T205.heap := O_15.keep Kq205 all0
          refine Runs.by (fun _ hr => st205.trans hr) ?_
          exact JC4 nb0 nb1 nb2 nb3 (82 : Int32) _ _ (own_up wl3 (f + 3) (nar .byte nb3)) _ _ _ _ _ X205 rfl N205 K206 O_206 hC hS hk hZ hown (G14.keep Kq205 nin0) Sf13_b2__C205 hnb0 hnb1 hnb2 hnb3 (by decide) (by rw [hwl3]) (Or.inr (Or.inr (Or.inr ⟨rfl, rfl, (LSl.step hSq205.1 Kq205), (LSu.step hSq205.1 Kq205)⟩)))
    have JC2 : ∀ (nb0 nb1 nb2 : Int32) (cJ2 sJ2 : Nat) (wl2 : Nat → Int32) (TJ10 : State) (hJ10 : Heap) (lJ10 : List Loc) (vJ10 : Vm) (kJ10 : Nat) (XJ10 : Stand p l e room_1 (s.setVm vJ10) m #[(.int p0), (.int p1), (.int p2), (.int p3), (.int p4)] below meth c TJ10 lJ10 cJ2 sJ2) (eJ10 : TJ10.heap = hJ10) (NJ10 : Fr n0 lJ10) (KJ10 : Keep h0 hJ10 []) (OJ10 : Old Z n0 hJ10) (hCJ10 : CHr Z consts_1 s.vm s.heap vJ10 hJ10) (hSJ10 : s.Since vJ10 kJ10) (hkJ10 : kJ10 ≤ hJ10.size) (hZJ10 : Z.Warmed39 vJ10) (hoJ10 : vJ10.findClass "com/example/word_odds/wordodds/filter/VerdictFieldBeginsPinLaw" = some m.cls) (fJ10_0 : Arf Z hJ10 b2 k2 .byte (24 : Int32) (fun j_ => .int (wl2 j_))) (Sf10_b2 : Safe Z consts_1 vJ10 hJ10 b2) (hnb0 : own_lc (nar .byte nb0) = (120 : Int32)) (hnb1 : own_lc (nar .byte nb1) = (45 : Int32)) (hnb2 : own_lc (nar .byte nb2) = (119 : Int32)) (hwl2 : wl2 = (own_up (own_up (fun _ => (0 : Int32)) (f + 0) (nar .byte nb0)) (f + 1) (nar .byte nb1))) (inv : own_inv Z vJ10 hJ10 b2 cJ2 sJ2), Runs p e below (QEW Z consts_1 s (Q_rm0 Z p0 p1 p2 p3 p4 gC vG lo ko h0 n0) room_1.cells room_1.slots) (TJ10.setTop (mkF m 66 #[.val (.int p0), .val (.int p1), .val (.int p2), .val (.int p3), .val (.int p4), .val (.int fr), .val (.int tt), .val (.ref b2), .unset, .unset, .unset, .unset, .unset, .unset, .unset, .unset, .unset, .unset, .unset, .unset, .unset, .unset, .unset, .unset] [(.int nb2), (.int (fr + (2 : Int32))), (.ref b2)])) := by
      intro nb0 nb1 nb2 cJ2 sJ2 wl2 TJ10 hJ10 lJ10 vJ10 kJ10 XJ10 eJ10 NJ10 KJ10 OJ10 hC hS hk hZ hown fJ10_0 Sf10_b2 hnb0 hnb1 hnb2 hwl2 inv
      clear JC4 JC5 JC6 JC7 JC8 JC9 JC10
      show Runs p e below _ (TJ10.setTop (mkF m 66 #[.val (.int p0), .val (.int p1), .val (.int p2), .val (.int p3), .val (.int p4), .val (.int fr), .val (.int tt), .val (.ref b2), .unset, .unset, .unset, .unset, .unset, .unset, .unset, .unset, .unset, .unset, .unset, .unset, .unset, .unset, .unset, .unset] [(.int nb2), (.int (fr + (2 : Int32))), (.ref b2)]))
      obtain ⟨cl11, Ar11, q11, S11, N11', H11⟩ := id fJ10_0
      have ix11 := own_ix (j := (fr + (2 : Int32))) (z := (24 : Int32)) (n := f + 2) (own_ad hf h3 (n := 2) (by decide) (by decide)) (own_ad24 hf h3 (n := 2) (by decide) (by decide))
      have hin11 : ¬ ((fr + (2 : Int32)) < 0 ∨ cl11.slots.size ≤ ((fr + (2 : Int32))).toNatClampNeg) := inb_of S11 ix11.1
      obtain ⟨T11, h11, X11, e11, W11, st11⟩ := stB XJ10 hx hZ eJ10 Ar11 (j := (fr + (2 : Int32))) hin11 (g := (mkF m 66 #[.val (.int p0), .val (.int p1), .val (.int p2), .val (.int p3), .val (.int p4), .val (.int fr), .val (.int tt), .val (.ref b2), .unset, .unset, .unset, .unset, .unset, .unset, .unset, .unset, .unset, .unset, .unset, .unset, .unset, .unset, .unset, .unset] [(.int nb2), (.int (fr + (2 : Int32))), (.ref b2)])) rfl rfl (hb hby at_66)
      have G11 : Arf Z h11 b2 k2 .byte (24 : Int32) (fun j_ => .int ((own_up wl2 (f + 2) (nar .byte nb2)) j_)) := (Arf.set Ar11 q11 S11 N11' H11 W11 ix11.2.1).cast (fun j_ _ => own_up_map Value.int _ _ _ j_)
      have K12 : Keep h0 h11 [] := KJ10.wr W11 (Or.inr sz_b2)
      have O_12 : Old Z n0 h11 := OJ10.wr W11 g_b2
      have Sf10_b2__K12 := Safe.wr W11 Sf10_b2 hC.1 Sf10_b2
      have hk : _ ≤ h11.size := Nat.le_trans hk (Keep.of_wr W11).1
      have hC := hC.trans (CHr.wr W11 Sf10_b2 hC.1)
      have inv := inv.wr W11
      have N11 := Fr.snoc X11 NJ10 g_b2
      refine Runs.by st11 ?_
      refine Runs.by (fun _ hr => XS.aload X11.here hx rfl (hb hby at_67) rfl rfl hr) ?_
      refine Runs.by (fun _ hr => XS.iload X11.here hx rfl (hb hby at_69) rfl  hr) ?_
      show Runs p e below _ (T11.setTop (mkF m 71 #[.val (.int p0), .val (.int p1), .val (.int p2), .val (.int p3), .val (.int p4), .val (.int fr), .val (.int tt), .val (.ref b2), .unset, .unset, .unset, .unset, .unset, .unset, .unset, .unset, .unset, .unset, .unset, .unset, .unset, .unset, .unset, .unset] [(.int fr), (.ref b2)]))
      refine Runs.by (fun _ hr => XS.iconst X11.here hx rfl (hb hby at_71) hr) ?_
      refine Runs.by (fun _ hr => XS.iadd X11.here hx rfl (hb hby at_72) rfl hr) ?_
      refine Runs.by (fun _ hr => XS.iconst X11.here hx rfl (hb hby at_73) hr) ?_
      show Runs p e below _ (T11.setTop (mkF m 74 #[.val (.int p0), .val (.int p1), .val (.int p2), .val (.int p3), .val (.int p4), .val (.int fr), .val (.int tt), .val (.ref b2), .unset, .unset, .unset, .unset, .unset, .unset, .unset, .unset, .unset, .unset, .unset, .unset, .unset, .unset, .unset, .unset] [(.int (3 : Int32)), (.int (fr + (3 : Int32))), (.ref b2)]))
      refine Runs.by (fun _ hr => XS.iloadN X11.here hx rfl (hb hby at_74) rfl  hr) ?_
      rcases inv with ⟨rfl, rfl⟩ | ⟨rfl, rfl, LSl⟩ | ⟨rfl, rfl, LSu⟩ | ⟨rfl, rfl, LSl, LSu⟩
      · skip
        by_cases hbit3 : ((p2 >>> ((3 : Int32) &&& 31)) &&& (1 : Int32)) = (0 : Int32)
        · skip
          show Runs p e below _ (T11.setTop (mkF m 75 #[.val (.int p0), .val (.int p1), .val (.int p2), .val (.int p3), .val (.int p4), .val (.int fr), .val (.int tt), .val (.ref b2), .unset, .unset, .unset, .unset, .unset, .unset, .unset, .unset, .unset, .unset, .unset, .unset, .unset, .unset, .unset, .unset] [(.int p2), (.int (3 : Int32)), (.int (fr + (3 : Int32))), (.ref b2)]))
          obtain ⟨_, _, ⟨T207, L207, k207, n207⟩, -, X207, hSq207, hgq207, ⟨Lc207, hQ207, l207, y207, z207, hr207⟩, st207⟩ := callSS X11 hx (y := (⟨"com/example/word_odds/wordodds/filter/VerdictFieldBeginsPinLaw", "nameByte", "(II)B"⟩ : MethodName)) hown (mvT hZ (hw _ (List.mem_of_getElem? (i := 2) rfl))) (mvT hZ (hw _ (List.mem_of_getElem? (i := 3) rfl))) (mvT hZ (hw _ (List.mem_of_getElem? (i := 4) rfl))) (mvT hZ (hw _ (List.mem_of_getElem? (i := 5) rfl))) (by decide) (own_backX (W := 2) (PX := fun _ => True) (rm1_24c l Z a0 hw [] (3 : Int32) p2 gC vG (111 : Int32) (111 : Int32) b2 k2 (own_up wl2 (f + 2) (nar .byte nb2))  h11 n0 (Nat.le_trans Z0 K12.1) (SC.ext O_12.2) cC hvG (SG.ext O_12.2) hbit3 ⟨by decide, by decide⟩ rfl (by decide) (by decide) G11 hEL) hZ (hw _ (List.mem_of_getElem? (i := 5) rfl)) (hw _ (List.mem_of_getElem? (i := 4) rfl)) (by decide) (by decide) hEL hC.1 G11.lt Sf10_b2__K12 (fun _ _ => trivial)) (g := (mkF m 75 #[.val (.int p0), .val (.int p1), .val (.int p2), .val (.int p3), .val (.int p4), .val (.int fr), .val (.int tt), .val (.ref b2), .unset, .unset, .unset, .unset, .unset, .unset, .unset, .unset, .unset, .unset, .unset, .unset, .unset, .unset, .unset, .unset] [(.int p2), (.int (3 : Int32)), (.int (fr + (3 : Int32))), (.ref b2)])) rfl (by rw [hml]; rfl) (argsL := [(.int (3 : Int32)), (.int p2)]) (rest := [(.int (fr + (3 : Int32))), (.ref b2)]) (lenOf pd_11 rfl) rfl (by show 2 * 0 + _ ≤ _; exact Nat.le_of_eq rfl) (hb hby at_75) (fun _ _ => ⟨rfl, e11, (by decide : 1 + 2 ≤ _), (by decide : 24 + 48 ≤ _)⟩)
          dsimp only [Pt.U, Pt.locs, Pt.cells, Pt.slots] at X207 l207 y207 z207 st207 hQ207
          subst l207 y207 z207
          dsimp only [Pt.U, Pt.locs, Pt.cells, Pt.slots] at hSq207 hgq207 hr207
          obtain ⟨X207, hS, hZ, hown⟩ := rebS hS (by rw [e11]; exact hk) X207 hSq207 hgq207 hZ hown
          have hk := Nat.le_refl T207.heap.size
          have Sf10_b2__C207 := CHr.safe hr207 G11.lt Sf10_b2__K12
          have hC := hC.trans hr207
          obtain ⟨rfl, Nq207, Kq207, LSq207⟩ := hQ207
          have N207 := Fr.app N11 Nq207
          have K208 : Keep h0 T207.heap [] := Keep.trans (ws := []) K12 Kq207 all0
          have O_208 : Old Z n0 T207.heap := O_12.keep Kq207 all0
          refine Runs.by (fun _ hr => st207.trans hr) ?_
          exact JC3 nb0 nb1 nb2 (111 : Int32) _ _ (own_up wl2 (f + 2) (nar .byte nb2)) _ _ _ _ _ X207 rfl N207 K208 O_208 hC hS hk hZ hown (G11.keep Kq207 nin0) Sf10_b2__C207 hnb0 hnb1 hnb2 (by decide) (by rw [hwl2]) (Or.inr (Or.inl ⟨rfl, rfl, LSq207⟩))
        · skip
          show Runs p e below _ (T11.setTop (mkF m 75 #[.val (.int p0), .val (.int p1), .val (.int p2), .val (.int p3), .val (.int p4), .val (.int fr), .val (.int tt), .val (.ref b2), .unset, .unset, .unset, .unset, .unset, .unset, .unset, .unset, .unset, .unset, .unset, .unset, .unset, .unset, .unset, .unset] [(.int p2), (.int (3 : Int32)), (.int (fr + (3 : Int32))), (.ref b2)]))
          obtain ⟨_, _, ⟨T209, L209, k209, n209⟩, -, X209, hSq209, hgq209, ⟨Lc209, hQ209, l209, y209, z209, hr209⟩, st209⟩ := callSS X11 hx (y := (⟨"com/example/word_odds/wordodds/filter/VerdictFieldBeginsPinLaw", "nameByte", "(II)B"⟩ : MethodName)) hown (mvT hZ (hw _ (List.mem_of_getElem? (i := 2) rfl))) (mvT hZ (hw _ (List.mem_of_getElem? (i := 3) rfl))) (mvT hZ (hw _ (List.mem_of_getElem? (i := 4) rfl))) (mvT hZ (hw _ (List.mem_of_getElem? (i := 5) rfl))) (by decide) (own_backX (W := 2) (PX := fun _ => True) (rm1_32c l Z a0 hw [] (3 : Int32) p2 gC vG (79 : Int32) (79 : Int32) b2 k2 (own_up wl2 (f + 2) (nar .byte nb2))  h11 n0 (Nat.le_trans Z0 K12.1) (SC.ext O_12.2) cC hvG (SG.ext O_12.2) hbit3 ⟨by decide, by decide⟩ rfl (by decide) (by decide) G11 hEL) hZ (hw _ (List.mem_of_getElem? (i := 5) rfl)) (hw _ (List.mem_of_getElem? (i := 4) rfl)) (by decide) (by decide) hEL hC.1 G11.lt Sf10_b2__K12 (fun _ _ => trivial)) (g := (mkF m 75 #[.val (.int p0), .val (.int p1), .val (.int p2), .val (.int p3), .val (.int p4), .val (.int fr), .val (.int tt), .val (.ref b2), .unset, .unset, .unset, .unset, .unset, .unset, .unset, .unset, .unset, .unset, .unset, .unset, .unset, .unset, .unset, .unset] [(.int p2), (.int (3 : Int32)), (.int (fr + (3 : Int32))), (.ref b2)])) rfl (by rw [hml]; rfl) (argsL := [(.int (3 : Int32)), (.int p2)]) (rest := [(.int (fr + (3 : Int32))), (.ref b2)]) (lenOf pd_11 rfl) rfl (by show 2 * 0 + _ ≤ _; exact Nat.le_of_eq rfl) (hb hby at_75) (fun _ _ => ⟨rfl, e11, (by decide : 1 + 2 ≤ _), (by decide : 24 + 48 ≤ _)⟩)
          dsimp only [Pt.U, Pt.locs, Pt.cells, Pt.slots] at X209 l209 y209 z209 st209 hQ209
          subst l209 y209 z209
          dsimp only [Pt.U, Pt.locs, Pt.cells, Pt.slots] at hSq209 hgq209 hr209
          obtain ⟨X209, hS, hZ, hown⟩ := rebS hS (by rw [e11]; exact hk) X209 hSq209 hgq209 hZ hown
          have hk := Nat.le_refl T209.heap.size
          have Sf10_b2__C209 := CHr.safe hr209 G11.lt Sf10_b2__K12
          have hC := hC.trans hr209
          obtain ⟨rfl, Nq209, Kq209, LSq209⟩ := hQ209
          have N209 := Fr.app N11 Nq209
          have K210 : Keep h0 T209.heap [] := Keep.trans (ws := []) K12 Kq209 all0
          have O_210 : Old Z n0 T209.heap := O_12.keep Kq209 all0
          refine Runs.by (fun _ hr => st209.trans hr) ?_
          exact JC3 nb0 nb1 nb2 (79 : Int32) _ _ (own_up wl2 (f + 2) (nar .byte nb2)) _ _ _ _ _ X209 rfl N209 K210 O_210 hC hS hk hZ hown (G11.keep Kq209 nin0) Sf10_b2__C209 hnb0 hnb1 hnb2 (by decide) (by rw [hwl2]) (Or.inr (Or.inr (Or.inl ⟨rfl, rfl, LSq209⟩)))
      · skip
        by_cases hbit3 : ((p2 >>> ((3 : Int32) &&& 31)) &&& (1 : Int32)) = (0 : Int32)
        · skip
          obtain ⟨la, lb, lk, lLi, lfE, lfC, lfV, lfA, -, -⟩ := id LSl
          show Runs p e below _ (T11.setTop (mkF m 75 #[.val (.int p0), .val (.int p1), .val (.int p2), .val (.int p3), .val (.int p4), .val (.int fr), .val (.int tt), .val (.ref b2), .unset, .unset, .unset, .unset, .unset, .unset, .unset, .unset, .unset, .unset, .unset, .unset, .unset, .unset, .unset, .unset] [(.int p2), (.int (3 : Int32)), (.int (fr + (3 : Int32))), (.ref b2)]))
          obtain ⟨_, _, ⟨T211, L211, k211, n211⟩, -, X211, hSq211, hgq211, ⟨Lc211, hQ211, l211, y211, z211, hr211⟩, st211⟩ := callSS X11 hx (y := (⟨"com/example/word_odds/wordodds/filter/VerdictFieldBeginsPinLaw", "nameByte", "(II)B"⟩ : MethodName)) hown (mvT hZ (hw _ (List.mem_of_getElem? (i := 2) rfl))) (mvT hZ (hw _ (List.mem_of_getElem? (i := 3) rfl))) (mvT hZ (hw _ (List.mem_of_getElem? (i := 4) rfl))) (mvT hZ (hw _ (List.mem_of_getElem? (i := 5) rfl))) (by decide) (own_backX (W := 2) (PX := fun vm_ => Lit (Z.setVm vm_) "com/example/word_odds/wordodds/filter/VerdictFieldBeginsPinLaw" 24 la) (rm1_24w l Z a0 hw [] (3 : Int32) p2 gC vG (111 : Int32) (111 : Int32) b2 k2 (own_up wl2 (f + 2) (nar .byte nb2)) la lb lk  h11 n0 (Nat.le_trans Z0 K12.1) (SC.ext O_12.2) cC hvG (SG.ext O_12.2) hbit3 ⟨by decide, by decide⟩ rfl (by decide) (by decide) G11 lfE lfC lfV lfA hEL) hZ (hw _ (List.mem_of_getElem? (i := 5) rfl)) (hw _ (List.mem_of_getElem? (i := 4) rfl)) (by decide) (by decide) hEL hC.1 G11.lt Sf10_b2__K12 (fun _ q => own_lstay (s := s) lLi q)) (g := (mkF m 75 #[.val (.int p0), .val (.int p1), .val (.int p2), .val (.int p3), .val (.int p4), .val (.int fr), .val (.int tt), .val (.ref b2), .unset, .unset, .unset, .unset, .unset, .unset, .unset, .unset, .unset, .unset, .unset, .unset, .unset, .unset, .unset, .unset] [(.int p2), (.int (3 : Int32)), (.int (fr + (3 : Int32))), (.ref b2)])) rfl (by rw [hml]; rfl) (argsL := [(.int (3 : Int32)), (.int p2)]) (rest := [(.int (fr + (3 : Int32))), (.ref b2)]) (lenOf pd_11 rfl) rfl (by show 2 * 0 + _ ≤ _; exact Nat.le_of_eq rfl) (hb hby at_75) (fun _ _ => ⟨rfl, e11, (by decide : 3 + 0 ≤ _), (by decide : 72 + 0 ≤ _)⟩)
          dsimp only [Pt.U, Pt.locs, Pt.cells, Pt.slots] at X211 l211 y211 z211 st211 hQ211
          subst l211 y211 z211
          dsimp only [Pt.U, Pt.locs, Pt.cells, Pt.slots] at hSq211 hgq211 hr211
          obtain ⟨X211, hS, hZ, hown⟩ := rebS hS (by rw [e11]; exact hk) X211 hSq211 hgq211 hZ hown
          have hk := Nat.le_refl T211.heap.size
          have Sf10_b2__C211 := CHr.safe hr211 G11.lt Sf10_b2__K12
          have hC := hC.trans hr211
          obtain ⟨rfl, Nq211, Kq211⟩ := hQ211
          have N211 := Fr.app N11 Nq211
          have K212 : Keep h0 T211.heap [] := Keep.trans (ws := []) K12 Kq211 all0
          have O_212 : Old Z n0 T211.heap := O_12.keep Kq211 all0
          refine Runs.by (fun _ hr => st211.trans hr) ?_
          exact JC3 nb0 nb1 nb2 (111 : Int32) _ _ (own_up wl2 (f + 2) (nar .byte nb2)) _ _ _ _ _ X211 rfl N211 K212 O_212 hC hS hk hZ hown (G11.keep Kq211 nin0) Sf10_b2__C211 hnb0 hnb1 hnb2 (by decide) (by rw [hwl2]) (Or.inr (Or.inl ⟨rfl, rfl, (LSl.step hSq211.1 Kq211)⟩))
        · skip
          show Runs p e below _ (T11.setTop (mkF m 75 #[.val (.int p0), .val (.int p1), .val (.int p2), .val (.int p3), .val (.int p4), .val (.int fr), .val (.int tt), .val (.ref b2), .unset, .unset, .unset, .unset, .unset, .unset, .unset, .unset, .unset, .unset, .unset, .unset, .unset, .unset, .unset, .unset] [(.int p2), (.int (3 : Int32)), (.int (fr + (3 : Int32))), (.ref b2)]))
          obtain ⟨_, _, ⟨T213, L213, k213, n213⟩, -, X213, hSq213, hgq213, ⟨Lc213, hQ213, l213, y213, z213, hr213⟩, st213⟩ := callSS X11 hx (y := (⟨"com/example/word_odds/wordodds/filter/VerdictFieldBeginsPinLaw", "nameByte", "(II)B"⟩ : MethodName)) hown (mvT hZ (hw _ (List.mem_of_getElem? (i := 2) rfl))) (mvT hZ (hw _ (List.mem_of_getElem? (i := 3) rfl))) (mvT hZ (hw _ (List.mem_of_getElem? (i := 4) rfl))) (mvT hZ (hw _ (List.mem_of_getElem? (i := 5) rfl))) (by decide) (own_backX (W := 2) (PX := fun _ => True) (rm1_32c l Z a0 hw [] (3 : Int32) p2 gC vG (79 : Int32) (79 : Int32) b2 k2 (own_up wl2 (f + 2) (nar .byte nb2))  h11 n0 (Nat.le_trans Z0 K12.1) (SC.ext O_12.2) cC hvG (SG.ext O_12.2) hbit3 ⟨by decide, by decide⟩ rfl (by decide) (by decide) G11 hEL) hZ (hw _ (List.mem_of_getElem? (i := 5) rfl)) (hw _ (List.mem_of_getElem? (i := 4) rfl)) (by decide) (by decide) hEL hC.1 G11.lt Sf10_b2__K12 (fun _ _ => trivial)) (g := (mkF m 75 #[.val (.int p0), .val (.int p1), .val (.int p2), .val (.int p3), .val (.int p4), .val (.int fr), .val (.int tt), .val (.ref b2), .unset, .unset, .unset, .unset, .unset, .unset, .unset, .unset, .unset, .unset, .unset, .unset, .unset, .unset, .unset, .unset] [(.int p2), (.int (3 : Int32)), (.int (fr + (3 : Int32))), (.ref b2)])) rfl (by rw [hml]; rfl) (argsL := [(.int (3 : Int32)), (.int p2)]) (rest := [(.int (fr + (3 : Int32))), (.ref b2)]) (lenOf pd_11 rfl) rfl (by show 2 * 0 + _ ≤ _; exact Nat.le_of_eq rfl) (hb hby at_75) (fun _ _ => ⟨rfl, e11, (by decide : 3 + 2 ≤ _), (by decide : 72 + 48 ≤ _)⟩)
          dsimp only [Pt.U, Pt.locs, Pt.cells, Pt.slots] at X213 l213 y213 z213 st213 hQ213
          subst l213 y213 z213
          dsimp only [Pt.U, Pt.locs, Pt.cells, Pt.slots] at hSq213 hgq213 hr213
          obtain ⟨X213, hS, hZ, hown⟩ := rebS hS (by rw [e11]; exact hk) X213 hSq213 hgq213 hZ hown
          have hk := Nat.le_refl T213.heap.size
          have Sf10_b2__C213 := CHr.safe hr213 G11.lt Sf10_b2__K12
          have hC := hC.trans hr213
          obtain ⟨rfl, Nq213, Kq213, LSq213⟩ := hQ213
          have N213 := Fr.app N11 Nq213
          have K214 : Keep h0 T213.heap [] := Keep.trans (ws := []) K12 Kq213 all0
          have O_214 : Old Z n0 T213.heap := O_12.keep Kq213 all0
          refine Runs.by (fun _ hr => st213.trans hr) ?_
          exact JC3 nb0 nb1 nb2 (79 : Int32) _ _ (own_up wl2 (f + 2) (nar .byte nb2)) _ _ _ _ _ X213 rfl N213 K214 O_214 hC hS hk hZ hown (G11.keep Kq213 nin0) Sf10_b2__C213 hnb0 hnb1 hnb2 (by decide) (by rw [hwl2]) (Or.inr (Or.inr (Or.inr ⟨rfl, rfl, (LSl.step hSq213.1 Kq213), LSq213⟩)))
      · skip
        by_cases hbit3 : ((p2 >>> ((3 : Int32) &&& 31)) &&& (1 : Int32)) = (0 : Int32)
        · skip
          show Runs p e below _ (T11.setTop (mkF m 75 #[.val (.int p0), .val (.int p1), .val (.int p2), .val (.int p3), .val (.int p4), .val (.int fr), .val (.int tt), .val (.ref b2), .unset, .unset, .unset, .unset, .unset, .unset, .unset, .unset, .unset, .unset, .unset, .unset, .unset, .unset, .unset, .unset] [(.int p2), (.int (3 : Int32)), (.int (fr + (3 : Int32))), (.ref b2)]))
          obtain ⟨_, _, ⟨T215, L215, k215, n215⟩, -, X215, hSq215, hgq215, ⟨Lc215, hQ215, l215, y215, z215, hr215⟩, st215⟩ := callSS X11 hx (y := (⟨"com/example/word_odds/wordodds/filter/VerdictFieldBeginsPinLaw", "nameByte", "(II)B"⟩ : MethodName)) hown (mvT hZ (hw _ (List.mem_of_getElem? (i := 2) rfl))) (mvT hZ (hw _ (List.mem_of_getElem? (i := 3) rfl))) (mvT hZ (hw _ (List.mem_of_getElem? (i := 4) rfl))) (mvT hZ (hw _ (List.mem_of_getElem? (i := 5) rfl))) (by decide) (own_backX (W := 2) (PX := fun _ => True) (rm1_24c l Z a0 hw [] (3 : Int32) p2 gC vG (111 : Int32) (111 : Int32) b2 k2 (own_up wl2 (f + 2) (nar .byte nb2))  h11 n0 (Nat.le_trans Z0 K12.1) (SC.ext O_12.2) cC hvG (SG.ext O_12.2) hbit3 ⟨by decide, by decide⟩ rfl (by decide) (by decide) G11 hEL) hZ (hw _ (List.mem_of_getElem? (i := 5) rfl)) (hw _ (List.mem_of_getElem? (i := 4) rfl)) (by decide) (by decide) hEL hC.1 G11.lt Sf10_b2__K12 (fun _ _ => trivial)) (g := (mkF m 75 #[.val (.int p0), .val (.int p1), .val (.int p2), .val (.int p3), .val (.int p4), .val (.int fr), .val (.int tt), .val (.ref b2), .unset, .unset, .unset, .unset, .unset, .unset, .unset, .unset, .unset, .unset, .unset, .unset, .unset, .unset, .unset, .unset] [(.int p2), (.int (3 : Int32)), (.int (fr + (3 : Int32))), (.ref b2)])) rfl (by rw [hml]; rfl) (argsL := [(.int (3 : Int32)), (.int p2)]) (rest := [(.int (fr + (3 : Int32))), (.ref b2)]) (lenOf pd_11 rfl) rfl (by show 2 * 0 + _ ≤ _; exact Nat.le_of_eq rfl) (hb hby at_75) (fun _ _ => ⟨rfl, e11, (by decide : 3 + 2 ≤ _), (by decide : 72 + 48 ≤ _)⟩)
          dsimp only [Pt.U, Pt.locs, Pt.cells, Pt.slots] at X215 l215 y215 z215 st215 hQ215
          subst l215 y215 z215
          dsimp only [Pt.U, Pt.locs, Pt.cells, Pt.slots] at hSq215 hgq215 hr215
          obtain ⟨X215, hS, hZ, hown⟩ := rebS hS (by rw [e11]; exact hk) X215 hSq215 hgq215 hZ hown
          have hk := Nat.le_refl T215.heap.size
          have Sf10_b2__C215 := CHr.safe hr215 G11.lt Sf10_b2__K12
          have hC := hC.trans hr215
          obtain ⟨rfl, Nq215, Kq215, LSq215⟩ := hQ215
          have N215 := Fr.app N11 Nq215
          have K216 : Keep h0 T215.heap [] := Keep.trans (ws := []) K12 Kq215 all0
          have O_216 : Old Z n0 T215.heap := O_12.keep Kq215 all0
          refine Runs.by (fun _ hr => st215.trans hr) ?_
          exact JC3 nb0 nb1 nb2 (111 : Int32) _ _ (own_up wl2 (f + 2) (nar .byte nb2)) _ _ _ _ _ X215 rfl N215 K216 O_216 hC hS hk hZ hown (G11.keep Kq215 nin0) Sf10_b2__C215 hnb0 hnb1 hnb2 (by decide) (by rw [hwl2]) (Or.inr (Or.inr (Or.inr ⟨rfl, rfl, LSq215, (LSu.step hSq215.1 Kq215)⟩)))
        · skip
          obtain ⟨la, lb, lk, lLi, lfE, lfC, lfV, lfA, -, -⟩ := id LSu
          show Runs p e below _ (T11.setTop (mkF m 75 #[.val (.int p0), .val (.int p1), .val (.int p2), .val (.int p3), .val (.int p4), .val (.int fr), .val (.int tt), .val (.ref b2), .unset, .unset, .unset, .unset, .unset, .unset, .unset, .unset, .unset, .unset, .unset, .unset, .unset, .unset, .unset, .unset] [(.int p2), (.int (3 : Int32)), (.int (fr + (3 : Int32))), (.ref b2)]))
          obtain ⟨_, _, ⟨T217, L217, k217, n217⟩, -, X217, hSq217, hgq217, ⟨Lc217, hQ217, l217, y217, z217, hr217⟩, st217⟩ := callSS X11 hx (y := (⟨"com/example/word_odds/wordodds/filter/VerdictFieldBeginsPinLaw", "nameByte", "(II)B"⟩ : MethodName)) hown (mvT hZ (hw _ (List.mem_of_getElem? (i := 2) rfl))) (mvT hZ (hw _ (List.mem_of_getElem? (i := 3) rfl))) (mvT hZ (hw _ (List.mem_of_getElem? (i := 4) rfl))) (mvT hZ (hw _ (List.mem_of_getElem? (i := 5) rfl))) (by decide) (own_backX (W := 2) (PX := fun vm_ => Lit (Z.setVm vm_) "com/example/word_odds/wordodds/filter/VerdictFieldBeginsPinLaw" 32 la) (rm1_32w l Z a0 hw [] (3 : Int32) p2 gC vG (79 : Int32) (79 : Int32) b2 k2 (own_up wl2 (f + 2) (nar .byte nb2)) la lb lk  h11 n0 (Nat.le_trans Z0 K12.1) (SC.ext O_12.2) cC hvG (SG.ext O_12.2) hbit3 ⟨by decide, by decide⟩ rfl (by decide) (by decide) G11 lfE lfC lfV lfA hEL) hZ (hw _ (List.mem_of_getElem? (i := 5) rfl)) (hw _ (List.mem_of_getElem? (i := 4) rfl)) (by decide) (by decide) hEL hC.1 G11.lt Sf10_b2__K12 (fun _ q => own_lstay (s := s) lLi q)) (g := (mkF m 75 #[.val (.int p0), .val (.int p1), .val (.int p2), .val (.int p3), .val (.int p4), .val (.int fr), .val (.int tt), .val (.ref b2), .unset, .unset, .unset, .unset, .unset, .unset, .unset, .unset, .unset, .unset, .unset, .unset, .unset, .unset, .unset, .unset] [(.int p2), (.int (3 : Int32)), (.int (fr + (3 : Int32))), (.ref b2)])) rfl (by rw [hml]; rfl) (argsL := [(.int (3 : Int32)), (.int p2)]) (rest := [(.int (fr + (3 : Int32))), (.ref b2)]) (lenOf pd_11 rfl) rfl (by show 2 * 0 + _ ≤ _; exact Nat.le_of_eq rfl) (hb hby at_75) (fun _ _ => ⟨rfl, e11, (by decide : 3 + 0 ≤ _), (by decide : 72 + 0 ≤ _)⟩)
          dsimp only [Pt.U, Pt.locs, Pt.cells, Pt.slots] at X217 l217 y217 z217 st217 hQ217
          subst l217 y217 z217
          dsimp only [Pt.U, Pt.locs, Pt.cells, Pt.slots] at hSq217 hgq217 hr217
          obtain ⟨X217, hS, hZ, hown⟩ := rebS hS (by rw [e11]; exact hk) X217 hSq217 hgq217 hZ hown
          have hk := Nat.le_refl T217.heap.size
          have Sf10_b2__C217 := CHr.safe hr217 G11.lt Sf10_b2__K12
          have hC := hC.trans hr217
          obtain ⟨rfl, Nq217, Kq217⟩ := hQ217
          have N217 := Fr.app N11 Nq217
          have K218 : Keep h0 T217.heap [] := Keep.trans (ws := []) K12 Kq217 all0
          have O_218 : Old Z n0 T217.heap := O_12.keep Kq217 all0
          refine Runs.by (fun _ hr => st217.trans hr) ?_
          exact JC3 nb0 nb1 nb2 (79 : Int32) _ _ (own_up wl2 (f + 2) (nar .byte nb2)) _ _ _ _ _ X217 rfl N217 K218 O_218 hC hS hk hZ hown (G11.keep Kq217 nin0) Sf10_b2__C217 hnb0 hnb1 hnb2 (by decide) (by rw [hwl2]) (Or.inr (Or.inr (Or.inl ⟨rfl, rfl, (LSu.step hSq217.1 Kq217)⟩)))
      · skip
        by_cases hbit3 : ((p2 >>> ((3 : Int32) &&& 31)) &&& (1 : Int32)) = (0 : Int32)
        · skip
          obtain ⟨la, lb, lk, lLi, lfE, lfC, lfV, lfA, -, -⟩ := id LSl
          show Runs p e below _ (T11.setTop (mkF m 75 #[.val (.int p0), .val (.int p1), .val (.int p2), .val (.int p3), .val (.int p4), .val (.int fr), .val (.int tt), .val (.ref b2), .unset, .unset, .unset, .unset, .unset, .unset, .unset, .unset, .unset, .unset, .unset, .unset, .unset, .unset, .unset, .unset] [(.int p2), (.int (3 : Int32)), (.int (fr + (3 : Int32))), (.ref b2)]))
          obtain ⟨_, _, ⟨T219, L219, k219, n219⟩, -, X219, hSq219, hgq219, ⟨Lc219, hQ219, l219, y219, z219, hr219⟩, st219⟩ := callSS X11 hx (y := (⟨"com/example/word_odds/wordodds/filter/VerdictFieldBeginsPinLaw", "nameByte", "(II)B"⟩ : MethodName)) hown (mvT hZ (hw _ (List.mem_of_getElem? (i := 2) rfl))) (mvT hZ (hw _ (List.mem_of_getElem? (i := 3) rfl))) (mvT hZ (hw _ (List.mem_of_getElem? (i := 4) rfl))) (mvT hZ (hw _ (List.mem_of_getElem? (i := 5) rfl))) (by decide) (own_backX (W := 2) (PX := fun vm_ => Lit (Z.setVm vm_) "com/example/word_odds/wordodds/filter/VerdictFieldBeginsPinLaw" 24 la) (rm1_24w l Z a0 hw [] (3 : Int32) p2 gC vG (111 : Int32) (111 : Int32) b2 k2 (own_up wl2 (f + 2) (nar .byte nb2)) la lb lk  h11 n0 (Nat.le_trans Z0 K12.1) (SC.ext O_12.2) cC hvG (SG.ext O_12.2) hbit3 ⟨by decide, by decide⟩ rfl (by decide) (by decide) G11 lfE lfC lfV lfA hEL) hZ (hw _ (List.mem_of_getElem? (i := 5) rfl)) (hw _ (List.mem_of_getElem? (i := 4) rfl)) (by decide) (by decide) hEL hC.1 G11.lt Sf10_b2__K12 (fun _ q => own_lstay (s := s) lLi q)) (g := (mkF m 75 #[.val (.int p0), .val (.int p1), .val (.int p2), .val (.int p3), .val (.int p4), .val (.int fr), .val (.int tt), .val (.ref b2), .unset, .unset, .unset, .unset, .unset, .unset, .unset, .unset, .unset, .unset, .unset, .unset, .unset, .unset, .unset, .unset] [(.int p2), (.int (3 : Int32)), (.int (fr + (3 : Int32))), (.ref b2)])) rfl (by rw [hml]; rfl) (argsL := [(.int (3 : Int32)), (.int p2)]) (rest := [(.int (fr + (3 : Int32))), (.ref b2)]) (lenOf pd_11 rfl) rfl (by show 2 * 0 + _ ≤ _; exact Nat.le_of_eq rfl) (hb hby at_75) (fun _ _ => ⟨rfl, e11, (by decide : 5 + 0 ≤ _), (by decide : 120 + 0 ≤ _)⟩)
          dsimp only [Pt.U, Pt.locs, Pt.cells, Pt.slots] at X219 l219 y219 z219 st219 hQ219
          subst l219 y219 z219
          dsimp only [Pt.U, Pt.locs, Pt.cells, Pt.slots] at hSq219 hgq219 hr219
          obtain ⟨X219, hS, hZ, hown⟩ := rebS hS (by rw [e11]; exact hk) X219 hSq219 hgq219 hZ hown
          have hk := Nat.le_refl T219.heap.size
          have Sf10_b2__C219 := CHr.safe hr219 G11.lt Sf10_b2__K12
          have hC := hC.trans hr219
          obtain ⟨rfl, Nq219, Kq219⟩ := hQ219
          have N219 := Fr.app N11 Nq219
          have K220 : Keep h0 T219.heap [] := Keep.trans (ws := []) K12 Kq219 all0
          have O_220 : Old Z n0 T219.heap := O_12.keep Kq219 all0
          refine Runs.by (fun _ hr => st219.trans hr) ?_
          exact JC3 nb0 nb1 nb2 (111 : Int32) _ _ (own_up wl2 (f + 2) (nar .byte nb2)) _ _ _ _ _ X219 rfl N219 K220 O_220 hC hS hk hZ hown (G11.keep Kq219 nin0) Sf10_b2__C219 hnb0 hnb1 hnb2 (by decide) (by rw [hwl2]) (Or.inr (Or.inr (Or.inr ⟨rfl, rfl, (LSl.step hSq219.1 Kq219), (LSu.step hSq219.1 Kq219)⟩)))
        · skip
          obtain ⟨la, lb, lk, lLi, lfE, lfC, lfV, lfA, -, -⟩ := id LSu
          show Runs p e below _ (T11.setTop (mkF m 75 #[.val (.int p0), .val (.int p1), .val (.int p2), .val (.int p3), .val (.int p4), .val (.int fr), .val (.int tt), .val (.ref b2), .unset, .unset, .unset, .unset, .unset, .unset, .unset, .unset, .unset, .unset, .unset, .unset, .unset, .unset, .unset, .unset] [(.int p2), (.int (3 : Int32)), (.int (fr + (3 : Int32))), (.ref b2)]))
          obtain ⟨_, _, ⟨T221, L221, k221, n221⟩, -, X221, hSq221, hgq221, ⟨Lc221, hQ221, l221, y221, z221, hr221⟩, st221⟩ := callSS X11 hx (y := (⟨"com/example/word_odds/wordodds/filter/VerdictFieldBeginsPinLaw", "nameByte", "(II)B"⟩ : MethodName)) hown (mvT hZ (hw _ (List.mem_of_getElem? (i := 2) rfl))) (mvT hZ (hw _ (List.mem_of_getElem? (i := 3) rfl))) (mvT hZ (hw _ (List.mem_of_getElem? (i := 4) rfl))) (mvT hZ (hw _ (List.mem_of_getElem? (i := 5) rfl))) (by decide) (own_backX (W := 2) (PX := fun vm_ => Lit (Z.setVm vm_) "com/example/word_odds/wordodds/filter/VerdictFieldBeginsPinLaw" 32 la) (rm1_32w l Z a0 hw [] (3 : Int32) p2 gC vG (79 : Int32) (79 : Int32) b2 k2 (own_up wl2 (f + 2) (nar .byte nb2)) la lb lk  h11 n0 (Nat.le_trans Z0 K12.1) (SC.ext O_12.2) cC hvG (SG.ext O_12.2) hbit3 ⟨by decide, by decide⟩ rfl (by decide) (by decide) G11 lfE lfC lfV lfA hEL) hZ (hw _ (List.mem_of_getElem? (i := 5) rfl)) (hw _ (List.mem_of_getElem? (i := 4) rfl)) (by decide) (by decide) hEL hC.1 G11.lt Sf10_b2__K12 (fun _ q => own_lstay (s := s) lLi q)) (g := (mkF m 75 #[.val (.int p0), .val (.int p1), .val (.int p2), .val (.int p3), .val (.int p4), .val (.int fr), .val (.int tt), .val (.ref b2), .unset, .unset, .unset, .unset, .unset, .unset, .unset, .unset, .unset, .unset, .unset, .unset, .unset, .unset, .unset, .unset] [(.int p2), (.int (3 : Int32)), (.int (fr + (3 : Int32))), (.ref b2)])) rfl (by rw [hml]; rfl) (argsL := [(.int (3 : Int32)), (.int p2)]) (rest := [(.int (fr + (3 : Int32))), (.ref b2)]) (lenOf pd_11 rfl) rfl (by show 2 * 0 + _ ≤ _; exact Nat.le_of_eq rfl) (hb hby at_75) (fun _ _ => ⟨rfl, e11, (by decide : 5 + 0 ≤ _), (by decide : 120 + 0 ≤ _)⟩)
          dsimp only [Pt.U, Pt.locs, Pt.cells, Pt.slots] at X221 l221 y221 z221 st221 hQ221
          subst l221 y221 z221
          dsimp only [Pt.U, Pt.locs, Pt.cells, Pt.slots] at hSq221 hgq221 hr221
          obtain ⟨X221, hS, hZ, hown⟩ := rebS hS (by rw [e11]; exact hk) X221 hSq221 hgq221 hZ hown
          have hk := Nat.le_refl T221.heap.size
          have Sf10_b2__C221 := CHr.safe hr221 G11.lt Sf10_b2__K12
          have hC := hC.trans hr221
          obtain ⟨rfl, Nq221, Kq221⟩ := hQ221
          have N221 := Fr.app N11 Nq221
          have K222 : Keep h0 T221.heap [] := Keep.trans (ws := []) K12 Kq221 all0
          have O_222 : Old Z n0 T221.heap := O_12.keep Kq221 all0
          refine Runs.by (fun _ hr => st221.trans hr) ?_
          exact JC3 nb0 nb1 nb2 (79 : Int32) _ _ (own_up wl2 (f + 2) (nar .byte nb2)) _ _ _ _ _ X221 rfl N221 K222 O_222 hC hS hk hZ hown (G11.keep Kq221 nin0) Sf10_b2__C221 hnb0 hnb1 hnb2 (by decide) (by rw [hwl2]) (Or.inr (Or.inr (Or.inr ⟨rfl, rfl, (LSl.step hSq221.1 Kq221), (LSu.step hSq221.1 Kq221)⟩)))
    have JC1 : ∀ (nb0 nb1 : Int32) (cJ1 sJ1 : Nat) (wl1 : Nat → Int32) (TJ7 : State) (hJ7 : Heap) (lJ7 : List Loc) (vJ7 : Vm) (kJ7 : Nat) (XJ7 : Stand p l e room_1 (s.setVm vJ7) m #[(.int p0), (.int p1), (.int p2), (.int p3), (.int p4)] below meth c TJ7 lJ7 cJ1 sJ1) (eJ7 : TJ7.heap = hJ7) (NJ7 : Fr n0 lJ7) (KJ7 : Keep h0 hJ7 []) (OJ7 : Old Z n0 hJ7) (hCJ7 : CHr Z consts_1 s.vm s.heap vJ7 hJ7) (hSJ7 : s.Since vJ7 kJ7) (hkJ7 : kJ7 ≤ hJ7.size) (hZJ7 : Z.Warmed39 vJ7) (hoJ7 : vJ7.findClass "com/example/word_odds/wordodds/filter/VerdictFieldBeginsPinLaw" = some m.cls) (fJ7_0 : Arf Z hJ7 b2 k2 .byte (24 : Int32) (fun j_ => .int (wl1 j_))) (Sf7_b2 : Safe Z consts_1 vJ7 hJ7 b2) (hnb0 : own_lc (nar .byte nb0) = (120 : Int32)) (hnb1 : own_lc (nar .byte nb1) = (45 : Int32)) (hwl1 : wl1 = (own_up (fun _ => (0 : Int32)) (f + 0) (nar .byte nb0))) (inv : own_inv Z vJ7 hJ7 b2 cJ1 sJ1), Runs p e below (QEW Z consts_1 s (Q_rm0 Z p0 p1 p2 p3 p4 gC vG lo ko h0 n0) room_1.cells room_1.slots) (TJ7.setTop (mkF m 54 #[.val (.int p0), .val (.int p1), .val (.int p2), .val (.int p3), .val (.int p4), .val (.int fr), .val (.int tt), .val (.ref b2), .unset, .unset, .unset, .unset, .unset, .unset, .unset, .unset, .unset, .unset, .unset, .unset, .unset, .unset, .unset, .unset] [(.int nb1), (.int (fr + (1 : Int32))), (.ref b2)])) := by
      intro nb0 nb1 cJ1 sJ1 wl1 TJ7 hJ7 lJ7 vJ7 kJ7 XJ7 eJ7 NJ7 KJ7 OJ7 hC hS hk hZ hown fJ7_0 Sf7_b2 hnb0 hnb1 hwl1 inv
      clear JC3 JC4 JC5 JC6 JC7 JC8 JC9 JC10
      show Runs p e below _ (TJ7.setTop (mkF m 54 #[.val (.int p0), .val (.int p1), .val (.int p2), .val (.int p3), .val (.int p4), .val (.int fr), .val (.int tt), .val (.ref b2), .unset, .unset, .unset, .unset, .unset, .unset, .unset, .unset, .unset, .unset, .unset, .unset, .unset, .unset, .unset, .unset] [(.int nb1), (.int (fr + (1 : Int32))), (.ref b2)]))
      obtain ⟨cl8, Ar8, q8, S8, N8', H8⟩ := id fJ7_0
      have ix8 := own_ix (j := (fr + (1 : Int32))) (z := (24 : Int32)) (n := f + 1) (own_ad hf h3 (n := 1) (by decide) (by decide)) (own_ad24 hf h3 (n := 1) (by decide) (by decide))
      have hin8 : ¬ ((fr + (1 : Int32)) < 0 ∨ cl8.slots.size ≤ ((fr + (1 : Int32))).toNatClampNeg) := inb_of S8 ix8.1
      obtain ⟨T8, h8, X8, e8, W8, st8⟩ := stB XJ7 hx hZ eJ7 Ar8 (j := (fr + (1 : Int32))) hin8 (g := (mkF m 54 #[.val (.int p0), .val (.int p1), .val (.int p2), .val (.int p3), .val (.int p4), .val (.int fr), .val (.int tt), .val (.ref b2), .unset, .unset, .unset, .unset, .unset, .unset, .unset, .unset, .unset, .unset, .unset, .unset, .unset, .unset, .unset, .unset] [(.int nb1), (.int (fr + (1 : Int32))), (.ref b2)])) rfl rfl (hb hby at_54)
      have G8 : Arf Z h8 b2 k2 .byte (24 : Int32) (fun j_ => .int ((own_up wl1 (f + 1) (nar .byte nb1)) j_)) := (Arf.set Ar8 q8 S8 N8' H8 W8 ix8.2.1).cast (fun j_ _ => own_up_map Value.int _ _ _ j_)
      have K9 : Keep h0 h8 [] := KJ7.wr W8 (Or.inr sz_b2)
      have O_9 : Old Z n0 h8 := OJ7.wr W8 g_b2
      have Sf7_b2__K9 := Safe.wr W8 Sf7_b2 hC.1 Sf7_b2
      have hk : _ ≤ h8.size := Nat.le_trans hk (Keep.of_wr W8).1
      have hC := hC.trans (CHr.wr W8 Sf7_b2 hC.1)
      have inv := inv.wr W8
      have N8 := Fr.snoc X8 NJ7 g_b2
      refine Runs.by st8 ?_
      refine Runs.by (fun _ hr => XS.aload X8.here hx rfl (hb hby at_55) rfl rfl hr) ?_
      refine Runs.by (fun _ hr => XS.iload X8.here hx rfl (hb hby at_57) rfl  hr) ?_
      show Runs p e below _ (T8.setTop (mkF m 59 #[.val (.int p0), .val (.int p1), .val (.int p2), .val (.int p3), .val (.int p4), .val (.int fr), .val (.int tt), .val (.ref b2), .unset, .unset, .unset, .unset, .unset, .unset, .unset, .unset, .unset, .unset, .unset, .unset, .unset, .unset, .unset, .unset] [(.int fr), (.ref b2)]))
      refine Runs.by (fun _ hr => XS.iconst X8.here hx rfl (hb hby at_59) hr) ?_
      refine Runs.by (fun _ hr => XS.iadd X8.here hx rfl (hb hby at_60) rfl hr) ?_
      refine Runs.by (fun _ hr => XS.iconst X8.here hx rfl (hb hby at_61) hr) ?_
      show Runs p e below _ (T8.setTop (mkF m 62 #[.val (.int p0), .val (.int p1), .val (.int p2), .val (.int p3), .val (.int p4), .val (.int fr), .val (.int tt), .val (.ref b2), .unset, .unset, .unset, .unset, .unset, .unset, .unset, .unset, .unset, .unset, .unset, .unset, .unset, .unset, .unset, .unset] [(.int (2 : Int32)), (.int (fr + (2 : Int32))), (.ref b2)]))
      refine Runs.by (fun _ hr => XS.iloadN X8.here hx rfl (hb hby at_62) rfl  hr) ?_
      rcases inv with ⟨rfl, rfl⟩ | ⟨rfl, rfl, LSl⟩ | ⟨rfl, rfl, LSu⟩ | ⟨rfl, rfl, LSl, LSu⟩
      · skip
        by_cases hbit2 : ((p2 >>> ((2 : Int32) &&& 31)) &&& (1 : Int32)) = (0 : Int32)
        · skip
          show Runs p e below _ (T8.setTop (mkF m 63 #[.val (.int p0), .val (.int p1), .val (.int p2), .val (.int p3), .val (.int p4), .val (.int fr), .val (.int tt), .val (.ref b2), .unset, .unset, .unset, .unset, .unset, .unset, .unset, .unset, .unset, .unset, .unset, .unset, .unset, .unset, .unset, .unset] [(.int p2), (.int (2 : Int32)), (.int (fr + (2 : Int32))), (.ref b2)]))
          obtain ⟨_, _, ⟨T223, L223, k223, n223⟩, -, X223, hSq223, hgq223, ⟨Lc223, hQ223, l223, y223, z223, hr223⟩, st223⟩ := callSS X8 hx (y := (⟨"com/example/word_odds/wordodds/filter/VerdictFieldBeginsPinLaw", "nameByte", "(II)B"⟩ : MethodName)) hown (mvT hZ (hw _ (List.mem_of_getElem? (i := 2) rfl))) (mvT hZ (hw _ (List.mem_of_getElem? (i := 3) rfl))) (mvT hZ (hw _ (List.mem_of_getElem? (i := 4) rfl))) (mvT hZ (hw _ (List.mem_of_getElem? (i := 5) rfl))) (by decide) (own_backX (W := 2) (PX := fun _ => True) (rm1_24c l Z a0 hw [] (2 : Int32) p2 gC vG (119 : Int32) (119 : Int32) b2 k2 (own_up wl1 (f + 1) (nar .byte nb1))  h8 n0 (Nat.le_trans Z0 K9.1) (SC.ext O_9.2) cC hvG (SG.ext O_9.2) hbit2 ⟨by decide, by decide⟩ rfl (by decide) (by decide) G8 hEL) hZ (hw _ (List.mem_of_getElem? (i := 5) rfl)) (hw _ (List.mem_of_getElem? (i := 4) rfl)) (by decide) (by decide) hEL hC.1 G8.lt Sf7_b2__K9 (fun _ _ => trivial)) (g := (mkF m 63 #[.val (.int p0), .val (.int p1), .val (.int p2), .val (.int p3), .val (.int p4), .val (.int fr), .val (.int tt), .val (.ref b2), .unset, .unset, .unset, .unset, .unset, .unset, .unset, .unset, .unset, .unset, .unset, .unset, .unset, .unset, .unset, .unset] [(.int p2), (.int (2 : Int32)), (.int (fr + (2 : Int32))), (.ref b2)])) rfl (by rw [hml]; rfl) (argsL := [(.int (2 : Int32)), (.int p2)]) (rest := [(.int (fr + (2 : Int32))), (.ref b2)]) (lenOf pd_11 rfl) rfl (by show 2 * 0 + _ ≤ _; exact Nat.le_of_eq rfl) (hb hby at_63) (fun _ _ => ⟨rfl, e8, (by decide : 1 + 2 ≤ _), (by decide : 24 + 48 ≤ _)⟩)
          dsimp only [Pt.U, Pt.locs, Pt.cells, Pt.slots] at X223 l223 y223 z223 st223 hQ223
          subst l223 y223 z223
          dsimp only [Pt.U, Pt.locs, Pt.cells, Pt.slots] at hSq223 hgq223 hr223
          obtain ⟨X223, hS, hZ, hown⟩ := rebS hS (by rw [e8]; exact hk) X223 hSq223 hgq223 hZ hown
          have hk := Nat.le_refl T223.heap.size
          have Sf7_b2__C223 := CHr.safe hr223 G8.lt Sf7_b2__K9
          have hC := hC.trans hr223
          obtain ⟨rfl, Nq223, Kq223, LSq223⟩ := hQ223
          have N223 := Fr.app N8 Nq223
          have K224 : Keep h0 T223.heap [] := Keep.trans (ws := []) K9 Kq223 all0
          have O_224 : Old Z n0 T223.heap := O_9.keep Kq223 all0
          refine Runs.by (fun _ hr => st223.trans hr) ?_
          exact JC2 nb0 nb1 (119 : Int32) _ _ (own_up wl1 (f + 1) (nar .byte nb1)) _ _ _ _ _ X223 rfl N223 K224 O_224 hC hS hk hZ hown (G8.keep Kq223 nin0) Sf7_b2__C223 hnb0 hnb1 (by decide) (by rw [hwl1]) (Or.inr (Or.inl ⟨rfl, rfl, LSq223⟩))
        · skip
          show Runs p e below _ (T8.setTop (mkF m 63 #[.val (.int p0), .val (.int p1), .val (.int p2), .val (.int p3), .val (.int p4), .val (.int fr), .val (.int tt), .val (.ref b2), .unset, .unset, .unset, .unset, .unset, .unset, .unset, .unset, .unset, .unset, .unset, .unset, .unset, .unset, .unset, .unset] [(.int p2), (.int (2 : Int32)), (.int (fr + (2 : Int32))), (.ref b2)]))
          obtain ⟨_, _, ⟨T225, L225, k225, n225⟩, -, X225, hSq225, hgq225, ⟨Lc225, hQ225, l225, y225, z225, hr225⟩, st225⟩ := callSS X8 hx (y := (⟨"com/example/word_odds/wordodds/filter/VerdictFieldBeginsPinLaw", "nameByte", "(II)B"⟩ : MethodName)) hown (mvT hZ (hw _ (List.mem_of_getElem? (i := 2) rfl))) (mvT hZ (hw _ (List.mem_of_getElem? (i := 3) rfl))) (mvT hZ (hw _ (List.mem_of_getElem? (i := 4) rfl))) (mvT hZ (hw _ (List.mem_of_getElem? (i := 5) rfl))) (by decide) (own_backX (W := 2) (PX := fun _ => True) (rm1_32c l Z a0 hw [] (2 : Int32) p2 gC vG (87 : Int32) (87 : Int32) b2 k2 (own_up wl1 (f + 1) (nar .byte nb1))  h8 n0 (Nat.le_trans Z0 K9.1) (SC.ext O_9.2) cC hvG (SG.ext O_9.2) hbit2 ⟨by decide, by decide⟩ rfl (by decide) (by decide) G8 hEL) hZ (hw _ (List.mem_of_getElem? (i := 5) rfl)) (hw _ (List.mem_of_getElem? (i := 4) rfl)) (by decide) (by decide) hEL hC.1 G8.lt Sf7_b2__K9 (fun _ _ => trivial)) (g := (mkF m 63 #[.val (.int p0), .val (.int p1), .val (.int p2), .val (.int p3), .val (.int p4), .val (.int fr), .val (.int tt), .val (.ref b2), .unset, .unset, .unset, .unset, .unset, .unset, .unset, .unset, .unset, .unset, .unset, .unset, .unset, .unset, .unset, .unset] [(.int p2), (.int (2 : Int32)), (.int (fr + (2 : Int32))), (.ref b2)])) rfl (by rw [hml]; rfl) (argsL := [(.int (2 : Int32)), (.int p2)]) (rest := [(.int (fr + (2 : Int32))), (.ref b2)]) (lenOf pd_11 rfl) rfl (by show 2 * 0 + _ ≤ _; exact Nat.le_of_eq rfl) (hb hby at_63) (fun _ _ => ⟨rfl, e8, (by decide : 1 + 2 ≤ _), (by decide : 24 + 48 ≤ _)⟩)
          dsimp only [Pt.U, Pt.locs, Pt.cells, Pt.slots] at X225 l225 y225 z225 st225 hQ225
          subst l225 y225 z225
          dsimp only [Pt.U, Pt.locs, Pt.cells, Pt.slots] at hSq225 hgq225 hr225
          obtain ⟨X225, hS, hZ, hown⟩ := rebS hS (by rw [e8]; exact hk) X225 hSq225 hgq225 hZ hown
          have hk := Nat.le_refl T225.heap.size
          have Sf7_b2__C225 := CHr.safe hr225 G8.lt Sf7_b2__K9
          have hC := hC.trans hr225
          obtain ⟨rfl, Nq225, Kq225, LSq225⟩ := hQ225
          have N225 := Fr.app N8 Nq225
          have K226 : Keep h0 T225.heap [] := Keep.trans (ws := []) K9 Kq225 all0
          have O_226 : Old Z n0 T225.heap := O_9.keep Kq225 all0
          refine Runs.by (fun _ hr => st225.trans hr) ?_
          exact JC2 nb0 nb1 (87 : Int32) _ _ (own_up wl1 (f + 1) (nar .byte nb1)) _ _ _ _ _ X225 rfl N225 K226 O_226 hC hS hk hZ hown (G8.keep Kq225 nin0) Sf7_b2__C225 hnb0 hnb1 (by decide) (by rw [hwl1]) (Or.inr (Or.inr (Or.inl ⟨rfl, rfl, LSq225⟩)))
      · skip
        by_cases hbit2 : ((p2 >>> ((2 : Int32) &&& 31)) &&& (1 : Int32)) = (0 : Int32)
        · skip
          obtain ⟨la, lb, lk, lLi, lfE, lfC, lfV, lfA, -, -⟩ := id LSl
          show Runs p e below _ (T8.setTop (mkF m 63 #[.val (.int p0), .val (.int p1), .val (.int p2), .val (.int p3), .val (.int p4), .val (.int fr), .val (.int tt), .val (.ref b2), .unset, .unset, .unset, .unset, .unset, .unset, .unset, .unset, .unset, .unset, .unset, .unset, .unset, .unset, .unset, .unset] [(.int p2), (.int (2 : Int32)), (.int (fr + (2 : Int32))), (.ref b2)]))
          obtain ⟨_, _, ⟨T227, L227, k227, n227⟩, -, X227, hSq227, hgq227, ⟨Lc227, hQ227, l227, y227, z227, hr227⟩, st227⟩ := callSS X8 hx (y := (⟨"com/example/word_odds/wordodds/filter/VerdictFieldBeginsPinLaw", "nameByte", "(II)B"⟩ : MethodName)) hown (mvT hZ (hw _ (List.mem_of_getElem? (i := 2) rfl))) (mvT hZ (hw _ (List.mem_of_getElem? (i := 3) rfl))) (mvT hZ (hw _ (List.mem_of_getElem? (i := 4) rfl))) (mvT hZ (hw _ (List.mem_of_getElem? (i := 5) rfl))) (by decide) (own_backX (W := 2) (PX := fun vm_ => Lit (Z.setVm vm_) "com/example/word_odds/wordodds/filter/VerdictFieldBeginsPinLaw" 24 la) (rm1_24w l Z a0 hw [] (2 : Int32) p2 gC vG (119 : Int32) (119 : Int32) b2 k2 (own_up wl1 (f + 1) (nar .byte nb1)) la lb lk  h8 n0 (Nat.le_trans Z0 K9.1) (SC.ext O_9.2) cC hvG (SG.ext O_9.2) hbit2 ⟨by decide, by decide⟩ rfl (by decide) (by decide) G8 lfE lfC lfV lfA hEL) hZ (hw _ (List.mem_of_getElem? (i := 5) rfl)) (hw _ (List.mem_of_getElem? (i := 4) rfl)) (by decide) (by decide) hEL hC.1 G8.lt Sf7_b2__K9 (fun _ q => own_lstay (s := s) lLi q)) (g := (mkF m 63 #[.val (.int p0), .val (.int p1), .val (.int p2), .val (.int p3), .val (.int p4), .val (.int fr), .val (.int tt), .val (.ref b2), .unset, .unset, .unset, .unset, .unset, .unset, .unset, .unset, .unset, .unset, .unset, .unset, .unset, .unset, .unset, .unset] [(.int p2), (.int (2 : Int32)), (.int (fr + (2 : Int32))), (.ref b2)])) rfl (by rw [hml]; rfl) (argsL := [(.int (2 : Int32)), (.int p2)]) (rest := [(.int (fr + (2 : Int32))), (.ref b2)]) (lenOf pd_11 rfl) rfl (by show 2 * 0 + _ ≤ _; exact Nat.le_of_eq rfl) (hb hby at_63) (fun _ _ => ⟨rfl, e8, (by decide : 3 + 0 ≤ _), (by decide : 72 + 0 ≤ _)⟩)
          dsimp only [Pt.U, Pt.locs, Pt.cells, Pt.slots] at X227 l227 y227 z227 st227 hQ227
          subst l227 y227 z227
          dsimp only [Pt.U, Pt.locs, Pt.cells, Pt.slots] at hSq227 hgq227 hr227
          obtain ⟨X227, hS, hZ, hown⟩ := rebS hS (by rw [e8]; exact hk) X227 hSq227 hgq227 hZ hown
          have hk := Nat.le_refl T227.heap.size
          have Sf7_b2__C227 := CHr.safe hr227 G8.lt Sf7_b2__K9
          have hC := hC.trans hr227
          obtain ⟨rfl, Nq227, Kq227⟩ := hQ227
          have N227 := Fr.app N8 Nq227
          have K228 : Keep h0 T227.heap [] := Keep.trans (ws := []) K9 Kq227 all0
          have O_228 : Old Z n0 T227.heap := O_9.keep Kq227 all0
          refine Runs.by (fun _ hr => st227.trans hr) ?_
          exact JC2 nb0 nb1 (119 : Int32) _ _ (own_up wl1 (f + 1) (nar .byte nb1)) _ _ _ _ _ X227 rfl N227 K228 O_228 hC hS hk hZ hown (G8.keep Kq227 nin0) Sf7_b2__C227 hnb0 hnb1 (by decide) (by rw [hwl1]) (Or.inr (Or.inl ⟨rfl, rfl, (LSl.step hSq227.1 Kq227)⟩))
        · skip
          show Runs p e below _ (T8.setTop (mkF m 63 #[.val (.int p0), .val (.int p1), .val (.int p2), .val (.int p3), .val (.int p4), .val (.int fr), .val (.int tt), .val (.ref b2), .unset, .unset, .unset, .unset, .unset, .unset, .unset, .unset, .unset, .unset, .unset, .unset, .unset, .unset, .unset, .unset] [(.int p2), (.int (2 : Int32)), (.int (fr + (2 : Int32))), (.ref b2)]))
          obtain ⟨_, _, ⟨T229, L229, k229, n229⟩, -, X229, hSq229, hgq229, ⟨Lc229, hQ229, l229, y229, z229, hr229⟩, st229⟩ := callSS X8 hx (y := (⟨"com/example/word_odds/wordodds/filter/VerdictFieldBeginsPinLaw", "nameByte", "(II)B"⟩ : MethodName)) hown (mvT hZ (hw _ (List.mem_of_getElem? (i := 2) rfl))) (mvT hZ (hw _ (List.mem_of_getElem? (i := 3) rfl))) (mvT hZ (hw _ (List.mem_of_getElem? (i := 4) rfl))) (mvT hZ (hw _ (List.mem_of_getElem? (i := 5) rfl))) (by decide) (own_backX (W := 2) (PX := fun _ => True) (rm1_32c l Z a0 hw [] (2 : Int32) p2 gC vG (87 : Int32) (87 : Int32) b2 k2 (own_up wl1 (f + 1) (nar .byte nb1))  h8 n0 (Nat.le_trans Z0 K9.1) (SC.ext O_9.2) cC hvG (SG.ext O_9.2) hbit2 ⟨by decide, by decide⟩ rfl (by decide) (by decide) G8 hEL) hZ (hw _ (List.mem_of_getElem? (i := 5) rfl)) (hw _ (List.mem_of_getElem? (i := 4) rfl)) (by decide) (by decide) hEL hC.1 G8.lt Sf7_b2__K9 (fun _ _ => trivial)) (g := (mkF m 63 #[.val (.int p0), .val (.int p1), .val (.int p2), .val (.int p3), .val (.int p4), .val (.int fr), .val (.int tt), .val (.ref b2), .unset, .unset, .unset, .unset, .unset, .unset, .unset, .unset, .unset, .unset, .unset, .unset, .unset, .unset, .unset, .unset] [(.int p2), (.int (2 : Int32)), (.int (fr + (2 : Int32))), (.ref b2)])) rfl (by rw [hml]; rfl) (argsL := [(.int (2 : Int32)), (.int p2)]) (rest := [(.int (fr + (2 : Int32))), (.ref b2)]) (lenOf pd_11 rfl) rfl (by show 2 * 0 + _ ≤ _; exact Nat.le_of_eq rfl) (hb hby at_63) (fun _ _ => ⟨rfl, e8, (by decide : 3 + 2 ≤ _), (by decide : 72 + 48 ≤ _)⟩)
          dsimp only [Pt.U, Pt.locs, Pt.cells, Pt.slots] at X229 l229 y229 z229 st229 hQ229
          subst l229 y229 z229
          dsimp only [Pt.U, Pt.locs, Pt.cells, Pt.slots] at hSq229 hgq229 hr229
          obtain ⟨X229, hS, hZ, hown⟩ := rebS hS (by rw [e8]; exact hk) X229 hSq229 hgq229 hZ hown
          have hk := Nat.le_refl T229.heap.size
          have Sf7_b2__C229 := CHr.safe hr229 G8.lt Sf7_b2__K9
          have hC := hC.trans hr229
          obtain ⟨rfl, Nq229, Kq229, LSq229⟩ := hQ229
          have N229 := Fr.app N8 Nq229
          have K230 : Keep h0 T229.heap [] := Keep.trans (ws := []) K9 Kq229 all0
          have O_230 : Old Z n0 T229.heap := O_9.keep Kq229 all0
          refine Runs.by (fun _ hr => st229.trans hr) ?_
          exact JC2 nb0 nb1 (87 : Int32) _ _ (own_up wl1 (f + 1) (nar .byte nb1)) _ _ _ _ _ X229 rfl N229 K230 O_230 hC hS hk hZ hown (G8.keep Kq229 nin0) Sf7_b2__C229 hnb0 hnb1 (by decide) (by rw [hwl1]) (Or.inr (Or.inr (Or.inr ⟨rfl, rfl, (LSl.step hSq229.1 Kq229), LSq229⟩)))
      · skip
        by_cases hbit2 : ((p2 >>> ((2 : Int32) &&& 31)) &&& (1 : Int32)) = (0 : Int32)
        · skip
          show Runs p e below _ (T8.setTop (mkF m 63 #[.val (.int p0), .val (.int p1), .val (.int p2), .val (.int p3), .val (.int p4), .val (.int fr), .val (.int tt), .val (.ref b2), .unset, .unset, .unset, .unset, .unset, .unset, .unset, .unset, .unset, .unset, .unset, .unset, .unset, .unset, .unset, .unset] [(.int p2), (.int (2 : Int32)), (.int (fr + (2 : Int32))), (.ref b2)]))
          obtain ⟨_, _, ⟨T231, L231, k231, n231⟩, -, X231, hSq231, hgq231, ⟨Lc231, hQ231, l231, y231, z231, hr231⟩, st231⟩ := callSS X8 hx (y := (⟨"com/example/word_odds/wordodds/filter/VerdictFieldBeginsPinLaw", "nameByte", "(II)B"⟩ : MethodName)) hown (mvT hZ (hw _ (List.mem_of_getElem? (i := 2) rfl))) (mvT hZ (hw _ (List.mem_of_getElem? (i := 3) rfl))) (mvT hZ (hw _ (List.mem_of_getElem? (i := 4) rfl))) (mvT hZ (hw _ (List.mem_of_getElem? (i := 5) rfl))) (by decide) (own_backX (W := 2) (PX := fun _ => True) (rm1_24c l Z a0 hw [] (2 : Int32) p2 gC vG (119 : Int32) (119 : Int32) b2 k2 (own_up wl1 (f + 1) (nar .byte nb1))  h8 n0 (Nat.le_trans Z0 K9.1) (SC.ext O_9.2) cC hvG (SG.ext O_9.2) hbit2 ⟨by decide, by decide⟩ rfl (by decide) (by decide) G8 hEL) hZ (hw _ (List.mem_of_getElem? (i := 5) rfl)) (hw _ (List.mem_of_getElem? (i := 4) rfl)) (by decide) (by decide) hEL hC.1 G8.lt Sf7_b2__K9 (fun _ _ => trivial)) (g := (mkF m 63 #[.val (.int p0), .val (.int p1), .val (.int p2), .val (.int p3), .val (.int p4), .val (.int fr), .val (.int tt), .val (.ref b2), .unset, .unset, .unset, .unset, .unset, .unset, .unset, .unset, .unset, .unset, .unset, .unset, .unset, .unset, .unset, .unset] [(.int p2), (.int (2 : Int32)), (.int (fr + (2 : Int32))), (.ref b2)])) rfl (by rw [hml]; rfl) (argsL := [(.int (2 : Int32)), (.int p2)]) (rest := [(.int (fr + (2 : Int32))), (.ref b2)]) (lenOf pd_11 rfl) rfl (by show 2 * 0 + _ ≤ _; exact Nat.le_of_eq rfl) (hb hby at_63) (fun _ _ => ⟨rfl, e8, (by decide : 3 + 2 ≤ _), (by decide : 72 + 48 ≤ _)⟩)
          dsimp only [Pt.U, Pt.locs, Pt.cells, Pt.slots] at X231 l231 y231 z231 st231 hQ231
          subst l231 y231 z231
          dsimp only [Pt.U, Pt.locs, Pt.cells, Pt.slots] at hSq231 hgq231 hr231
          obtain ⟨X231, hS, hZ, hown⟩ := rebS hS (by rw [e8]; exact hk) X231 hSq231 hgq231 hZ hown
          have hk := Nat.le_refl T231.heap.size
          have Sf7_b2__C231 := CHr.safe hr231 G8.lt Sf7_b2__K9
          have hC := hC.trans hr231
          obtain ⟨rfl, Nq231, Kq231, LSq231⟩ := hQ231
          have N231 := Fr.app N8 Nq231
          have K232 : Keep h0 T231.heap [] := Keep.trans (ws := []) K9 Kq231 all0
          have O_232 : Old Z n0 T231.heap := O_9.keep Kq231 all0
          refine Runs.by (fun _ hr => st231.trans hr) ?_
          exact JC2 nb0 nb1 (119 : Int32) _ _ (own_up wl1 (f + 1) (nar .byte nb1)) _ _ _ _ _ X231 rfl N231 K232 O_232 hC hS hk hZ hown (G8.keep Kq231 nin0) Sf7_b2__C231 hnb0 hnb1 (by decide) (by rw [hwl1]) (Or.inr (Or.inr (Or.inr ⟨rfl, rfl, LSq231, (LSu.step hSq231.1 Kq231)⟩)))
        · skip
          obtain ⟨la, lb, lk, lLi, lfE, lfC, lfV, lfA, -, -⟩ := id LSu
          show Runs p e below _ (T8.setTop (mkF m 63 #[.val (.int p0), .val (.int p1), .val (.int p2), .val (.int p3), .val (.int p4), .val (.int fr), .val (.int tt), .val (.ref b2), .unset, .unset, .unset, .unset, .unset, .unset, .unset, .unset, .unset, .unset, .unset, .unset, .unset, .unset, .unset, .unset] [(.int p2), (.int (2 : Int32)), (.int (fr + (2 : Int32))), (.ref b2)]))
          obtain ⟨_, _, ⟨T233, L233, k233, n233⟩, -, X233, hSq233, hgq233, ⟨Lc233, hQ233, l233, y233, z233, hr233⟩, st233⟩ := callSS X8 hx (y := (⟨"com/example/word_odds/wordodds/filter/VerdictFieldBeginsPinLaw", "nameByte", "(II)B"⟩ : MethodName)) hown (mvT hZ (hw _ (List.mem_of_getElem? (i := 2) rfl))) (mvT hZ (hw _ (List.mem_of_getElem? (i := 3) rfl))) (mvT hZ (hw _ (List.mem_of_getElem? (i := 4) rfl))) (mvT hZ (hw _ (List.mem_of_getElem? (i := 5) rfl))) (by decide) (own_backX (W := 2) (PX := fun vm_ => Lit (Z.setVm vm_) "com/example/word_odds/wordodds/filter/VerdictFieldBeginsPinLaw" 32 la) (rm1_32w l Z a0 hw [] (2 : Int32) p2 gC vG (87 : Int32) (87 : Int32) b2 k2 (own_up wl1 (f + 1) (nar .byte nb1)) la lb lk  h8 n0 (Nat.le_trans Z0 K9.1) (SC.ext O_9.2) cC hvG (SG.ext O_9.2) hbit2 ⟨by decide, by decide⟩ rfl (by decide) (by decide) G8 lfE lfC lfV lfA hEL) hZ (hw _ (List.mem_of_getElem? (i := 5) rfl)) (hw _ (List.mem_of_getElem? (i := 4) rfl)) (by decide) (by decide) hEL hC.1 G8.lt Sf7_b2__K9 (fun _ q => own_lstay (s := s) lLi q)) (g := (mkF m 63 #[.val (.int p0), .val (.int p1), .val (.int p2), .val (.int p3), .val (.int p4), .val (.int fr), .val (.int tt), .val (.ref b2), .unset, .unset, .unset, .unset, .unset, .unset, .unset, .unset, .unset, .unset, .unset, .unset, .unset, .unset, .unset, .unset] [(.int p2), (.int (2 : Int32)), (.int (fr + (2 : Int32))), (.ref b2)])) rfl (by rw [hml]; rfl) (argsL := [(.int (2 : Int32)), (.int p2)]) (rest := [(.int (fr + (2 : Int32))), (.ref b2)]) (lenOf pd_11 rfl) rfl (by show 2 * 0 + _ ≤ _; exact Nat.le_of_eq rfl) (hb hby at_63) (fun _ _ => ⟨rfl, e8, (by decide : 3 + 0 ≤ _), (by decide : 72 + 0 ≤ _)⟩)
          dsimp only [Pt.U, Pt.locs, Pt.cells, Pt.slots] at X233 l233 y233 z233 st233 hQ233
          subst l233 y233 z233
          dsimp only [Pt.U, Pt.locs, Pt.cells, Pt.slots] at hSq233 hgq233 hr233
          obtain ⟨X233, hS, hZ, hown⟩ := rebS hS (by rw [e8]; exact hk) X233 hSq233 hgq233 hZ hown
          have hk := Nat.le_refl T233.heap.size
          have Sf7_b2__C233 := CHr.safe hr233 G8.lt Sf7_b2__K9
          have hC := hC.trans hr233
          obtain ⟨rfl, Nq233, Kq233⟩ := hQ233
          have N233 := Fr.app N8 Nq233
          have K234 : Keep h0 T233.heap [] := Keep.trans (ws := []) K9 Kq233 all0
          have O_234 : Old Z n0 T233.heap := O_9.keep Kq233 all0
          refine Runs.by (fun _ hr => st233.trans hr) ?_
          exact JC2 nb0 nb1 (87 : Int32) _ _ (own_up wl1 (f + 1) (nar .byte nb1)) _ _ _ _ _ X233 rfl N233 K234 O_234 hC hS hk hZ hown (G8.keep Kq233 nin0) Sf7_b2__C233 hnb0 hnb1 (by decide) (by rw [hwl1]) (Or.inr (Or.inr (Or.inl ⟨rfl, rfl, (LSu.step hSq233.1 Kq233)⟩)))
      · skip
        by_cases hbit2 : ((p2 >>> ((2 : Int32) &&& 31)) &&& (1 : Int32)) = (0 : Int32)
        · skip
          obtain ⟨la, lb, lk, lLi, lfE, lfC, lfV, lfA, -, -⟩ := id LSl
          show Runs p e below _ (T8.setTop (mkF m 63 #[.val (.int p0), .val (.int p1), .val (.int p2), .val (.int p3), .val (.int p4), .val (.int fr), .val (.int tt), .val (.ref b2), .unset, .unset, .unset, .unset, .unset, .unset, .unset, .unset, .unset, .unset, .unset, .unset, .unset, .unset, .unset, .unset] [(.int p2), (.int (2 : Int32)), (.int (fr + (2 : Int32))), (.ref b2)]))
          obtain ⟨_, _, ⟨T235, L235, k235, n235⟩, -, X235, hSq235, hgq235, ⟨Lc235, hQ235, l235, y235, z235, hr235⟩, st235⟩ := callSS X8 hx (y := (⟨"com/example/word_odds/wordodds/filter/VerdictFieldBeginsPinLaw", "nameByte", "(II)B"⟩ : MethodName)) hown (mvT hZ (hw _ (List.mem_of_getElem? (i := 2) rfl))) (mvT hZ (hw _ (List.mem_of_getElem? (i := 3) rfl))) (mvT hZ (hw _ (List.mem_of_getElem? (i := 4) rfl))) (mvT hZ (hw _ (List.mem_of_getElem? (i := 5) rfl))) (by decide) (own_backX (W := 2) (PX := fun vm_ => Lit (Z.setVm vm_) "com/example/word_odds/wordodds/filter/VerdictFieldBeginsPinLaw" 24 la) (rm1_24w l Z a0 hw [] (2 : Int32) p2 gC vG (119 : Int32) (119 : Int32) b2 k2 (own_up wl1 (f + 1) (nar .byte nb1)) la lb lk  h8 n0 (Nat.le_trans Z0 K9.1) (SC.ext O_9.2) cC hvG (SG.ext O_9.2) hbit2 ⟨by decide, by decide⟩ rfl (by decide) (by decide) G8 lfE lfC lfV lfA hEL) hZ (hw _ (List.mem_of_getElem? (i := 5) rfl)) (hw _ (List.mem_of_getElem? (i := 4) rfl)) (by decide) (by decide) hEL hC.1 G8.lt Sf7_b2__K9 (fun _ q => own_lstay (s := s) lLi q)) (g := (mkF m 63 #[.val (.int p0), .val (.int p1), .val (.int p2), .val (.int p3), .val (.int p4), .val (.int fr), .val (.int tt), .val (.ref b2), .unset, .unset, .unset, .unset, .unset, .unset, .unset, .unset, .unset, .unset, .unset, .unset, .unset, .unset, .unset, .unset] [(.int p2), (.int (2 : Int32)), (.int (fr + (2 : Int32))), (.ref b2)])) rfl (by rw [hml]; rfl) (argsL := [(.int (2 : Int32)), (.int p2)]) (rest := [(.int (fr + (2 : Int32))), (.ref b2)]) (lenOf pd_11 rfl) rfl (by show 2 * 0 + _ ≤ _; exact Nat.le_of_eq rfl) (hb hby at_63) (fun _ _ => ⟨rfl, e8, (by decide : 5 + 0 ≤ _), (by decide : 120 + 0 ≤ _)⟩)
          dsimp only [Pt.U, Pt.locs, Pt.cells, Pt.slots] at X235 l235 y235 z235 st235 hQ235
          subst l235 y235 z235
          dsimp only [Pt.U, Pt.locs, Pt.cells, Pt.slots] at hSq235 hgq235 hr235
          obtain ⟨X235, hS, hZ, hown⟩ := rebS hS (by rw [e8]; exact hk) X235 hSq235 hgq235 hZ hown
          have hk := Nat.le_refl T235.heap.size
          have Sf7_b2__C235 := CHr.safe hr235 G8.lt Sf7_b2__K9
          have hC := hC.trans hr235
          obtain ⟨rfl, Nq235, Kq235⟩ := hQ235
          have N235 := Fr.app N8 Nq235
          have K236 : Keep h0 T235.heap [] := Keep.trans (ws := []) K9 Kq235 all0
          have O_236 : Old Z n0 T235.heap := O_9.keep Kq235 all0
          refine Runs.by (fun _ hr => st235.trans hr) ?_
          exact JC2 nb0 nb1 (119 : Int32) _ _ (own_up wl1 (f + 1) (nar .byte nb1)) _ _ _ _ _ X235 rfl N235 K236 O_236 hC hS hk hZ hown (G8.keep Kq235 nin0) Sf7_b2__C235 hnb0 hnb1 (by decide) (by rw [hwl1]) (Or.inr (Or.inr (Or.inr ⟨rfl, rfl, (LSl.step hSq235.1 Kq235), (LSu.step hSq235.1 Kq235)⟩)))
        · skip
          obtain ⟨la, lb, lk, lLi, lfE, lfC, lfV, lfA, -, -⟩ := id LSu
          show Runs p e below _ (T8.setTop (mkF m 63 #[.val (.int p0), .val (.int p1), .val (.int p2), .val (.int p3), .val (.int p4), .val (.int fr), .val (.int tt), .val (.ref b2), .unset, .unset, .unset, .unset, .unset, .unset, .unset, .unset, .unset, .unset, .unset, .unset, .unset, .unset, .unset, .unset] [(.int p2), (.int (2 : Int32)), (.int (fr + (2 : Int32))), (.ref b2)]))
          obtain ⟨_, _, ⟨T237, L237, k237, n237⟩, -, X237, hSq237, hgq237, ⟨Lc237, hQ237, l237, y237, z237, hr237⟩, st237⟩ := callSS X8 hx (y := (⟨"com/example/word_odds/wordodds/filter/VerdictFieldBeginsPinLaw", "nameByte", "(II)B"⟩ : MethodName)) hown (mvT hZ (hw _ (List.mem_of_getElem? (i := 2) rfl))) (mvT hZ (hw _ (List.mem_of_getElem? (i := 3) rfl))) (mvT hZ (hw _ (List.mem_of_getElem? (i := 4) rfl))) (mvT hZ (hw _ (List.mem_of_getElem? (i := 5) rfl))) (by decide) (own_backX (W := 2) (PX := fun vm_ => Lit (Z.setVm vm_) "com/example/word_odds/wordodds/filter/VerdictFieldBeginsPinLaw" 32 la) (rm1_32w l Z a0 hw [] (2 : Int32) p2 gC vG (87 : Int32) (87 : Int32) b2 k2 (own_up wl1 (f + 1) (nar .byte nb1)) la lb lk  h8 n0 (Nat.le_trans Z0 K9.1) (SC.ext O_9.2) cC hvG (SG.ext O_9.2) hbit2 ⟨by decide, by decide⟩ rfl (by decide) (by decide) G8 lfE lfC lfV lfA hEL) hZ (hw _ (List.mem_of_getElem? (i := 5) rfl)) (hw _ (List.mem_of_getElem? (i := 4) rfl)) (by decide) (by decide) hEL hC.1 G8.lt Sf7_b2__K9 (fun _ q => own_lstay (s := s) lLi q)) (g := (mkF m 63 #[.val (.int p0), .val (.int p1), .val (.int p2), .val (.int p3), .val (.int p4), .val (.int fr), .val (.int tt), .val (.ref b2), .unset, .unset, .unset, .unset, .unset, .unset, .unset, .unset, .unset, .unset, .unset, .unset, .unset, .unset, .unset, .unset] [(.int p2), (.int (2 : Int32)), (.int (fr + (2 : Int32))), (.ref b2)])) rfl (by rw [hml]; rfl) (argsL := [(.int (2 : Int32)), (.int p2)]) (rest := [(.int (fr + (2 : Int32))), (.ref b2)]) (lenOf pd_11 rfl) rfl (by show 2 * 0 + _ ≤ _; exact Nat.le_of_eq rfl) (hb hby at_63) (fun _ _ => ⟨rfl, e8, (by decide : 5 + 0 ≤ _), (by decide : 120 + 0 ≤ _)⟩)
          dsimp only [Pt.U, Pt.locs, Pt.cells, Pt.slots] at X237 l237 y237 z237 st237 hQ237
          subst l237 y237 z237
          dsimp only [Pt.U, Pt.locs, Pt.cells, Pt.slots] at hSq237 hgq237 hr237
          obtain ⟨X237, hS, hZ, hown⟩ := rebS hS (by rw [e8]; exact hk) X237 hSq237 hgq237 hZ hown
          have hk := Nat.le_refl T237.heap.size
          have Sf7_b2__C237 := CHr.safe hr237 G8.lt Sf7_b2__K9
          have hC := hC.trans hr237
          obtain ⟨rfl, Nq237, Kq237⟩ := hQ237
          have N237 := Fr.app N8 Nq237
          have K238 : Keep h0 T237.heap [] := Keep.trans (ws := []) K9 Kq237 all0
          have O_238 : Old Z n0 T237.heap := O_9.keep Kq237 all0
          refine Runs.by (fun _ hr => st237.trans hr) ?_
          exact JC2 nb0 nb1 (87 : Int32) _ _ (own_up wl1 (f + 1) (nar .byte nb1)) _ _ _ _ _ X237 rfl N237 K238 O_238 hC hS hk hZ hown (G8.keep Kq237 nin0) Sf7_b2__C237 hnb0 hnb1 (by decide) (by rw [hwl1]) (Or.inr (Or.inr (Or.inr ⟨rfl, rfl, (LSl.step hSq237.1 Kq237), (LSu.step hSq237.1 Kq237)⟩)))
    have JC0 : ∀ (nb0 : Int32) (cJ0 sJ0 : Nat) (wl0 : Nat → Int32) (TJ4 : State) (hJ4 : Heap) (lJ4 : List Loc) (vJ4 : Vm) (kJ4 : Nat) (XJ4 : Stand p l e room_1 (s.setVm vJ4) m #[(.int p0), (.int p1), (.int p2), (.int p3), (.int p4)] below meth c TJ4 lJ4 cJ0 sJ0) (eJ4 : TJ4.heap = hJ4) (NJ4 : Fr n0 lJ4) (KJ4 : Keep h0 hJ4 []) (OJ4 : Old Z n0 hJ4) (hCJ4 : CHr Z consts_1 s.vm s.heap vJ4 hJ4) (hSJ4 : s.Since vJ4 kJ4) (hkJ4 : kJ4 ≤ hJ4.size) (hZJ4 : Z.Warmed39 vJ4) (hoJ4 : vJ4.findClass "com/example/word_odds/wordodds/filter/VerdictFieldBeginsPinLaw" = some m.cls) (fJ4_0 : Arf Z hJ4 b2 k2 .byte (24 : Int32) (fun j_ => .int (wl0 j_))) (Sf4_b2 : Safe Z consts_1 vJ4 hJ4 b2) (hnb0 : own_lc (nar .byte nb0) = (120 : Int32)) (hwl0 : wl0 = (fun _ => (0 : Int32))) (inv : own_inv Z vJ4 hJ4 b2 cJ0 sJ0), Runs p e below (QEW Z consts_1 s (Q_rm0 Z p0 p1 p2 p3 p4 gC vG lo ko h0 n0) room_1.cells room_1.slots) (TJ4.setTop (mkF m 42 #[.val (.int p0), .val (.int p1), .val (.int p2), .val (.int p3), .val (.int p4), .val (.int fr), .val (.int tt), .val (.ref b2), .unset, .unset, .unset, .unset, .unset, .unset, .unset, .unset, .unset, .unset, .unset, .unset, .unset, .unset, .unset, .unset] [(.int nb0), (.int fr), (.ref b2)])) := by
      intro nb0 cJ0 sJ0 wl0 TJ4 hJ4 lJ4 vJ4 kJ4 XJ4 eJ4 NJ4 KJ4 OJ4 hC hS hk hZ hown fJ4_0 Sf4_b2 hnb0 hwl0 inv
      clear JC2 JC3 JC4 JC5 JC6 JC7 JC8 JC9 JC10
      show Runs p e below _ (TJ4.setTop (mkF m 42 #[.val (.int p0), .val (.int p1), .val (.int p2), .val (.int p3), .val (.int p4), .val (.int fr), .val (.int tt), .val (.ref b2), .unset, .unset, .unset, .unset, .unset, .unset, .unset, .unset, .unset, .unset, .unset, .unset, .unset, .unset, .unset, .unset] [(.int nb0), (.int fr), (.ref b2)]))
      obtain ⟨cl5, Ar5, q5, S5, N5', H5⟩ := id fJ4_0
      have ix5 := own_ix (j := fr) (z := (24 : Int32)) (n := f + 0) (own_00 hf) (own_24 hf h3)
      have hin5 : ¬ (fr < 0 ∨ cl5.slots.size ≤ (fr).toNatClampNeg) := inb_of S5 ix5.1
      obtain ⟨T5, h5, X5, e5, W5, st5⟩ := stB XJ4 hx hZ eJ4 Ar5 (j := fr) hin5 (g := (mkF m 42 #[.val (.int p0), .val (.int p1), .val (.int p2), .val (.int p3), .val (.int p4), .val (.int fr), .val (.int tt), .val (.ref b2), .unset, .unset, .unset, .unset, .unset, .unset, .unset, .unset, .unset, .unset, .unset, .unset, .unset, .unset, .unset, .unset] [(.int nb0), (.int fr), (.ref b2)])) rfl rfl (hb hby at_42)
      have G5 : Arf Z h5 b2 k2 .byte (24 : Int32) (fun j_ => .int ((own_up wl0 (f + 0) (nar .byte nb0)) j_)) := (Arf.set Ar5 q5 S5 N5' H5 W5 ix5.2.1).cast (fun j_ _ => own_up_map Value.int _ _ _ j_)
      have K6 : Keep h0 h5 [] := KJ4.wr W5 (Or.inr sz_b2)
      have O_6 : Old Z n0 h5 := OJ4.wr W5 g_b2
      have Sf4_b2__K6 := Safe.wr W5 Sf4_b2 hC.1 Sf4_b2
      have hk : _ ≤ h5.size := Nat.le_trans hk (Keep.of_wr W5).1
      have hC := hC.trans (CHr.wr W5 Sf4_b2 hC.1)
      have inv := inv.wr W5
      have N5 := Fr.snoc X5 NJ4 g_b2
      refine Runs.by st5 ?_
      refine Runs.by (fun _ hr => XS.aload X5.here hx rfl (hb hby at_43) rfl rfl hr) ?_
      refine Runs.by (fun _ hr => XS.iload X5.here hx rfl (hb hby at_45) rfl  hr) ?_
      show Runs p e below _ (T5.setTop (mkF m 47 #[.val (.int p0), .val (.int p1), .val (.int p2), .val (.int p3), .val (.int p4), .val (.int fr), .val (.int tt), .val (.ref b2), .unset, .unset, .unset, .unset, .unset, .unset, .unset, .unset, .unset, .unset, .unset, .unset, .unset, .unset, .unset, .unset] [(.int fr), (.ref b2)]))
      refine Runs.by (fun _ hr => XS.iconst X5.here hx rfl (hb hby at_47) hr) ?_
      refine Runs.by (fun _ hr => XS.iadd X5.here hx rfl (hb hby at_48) rfl hr) ?_
      refine Runs.by (fun _ hr => XS.iconst X5.here hx rfl (hb hby at_49) hr) ?_
      show Runs p e below _ (T5.setTop (mkF m 50 #[.val (.int p0), .val (.int p1), .val (.int p2), .val (.int p3), .val (.int p4), .val (.int fr), .val (.int tt), .val (.ref b2), .unset, .unset, .unset, .unset, .unset, .unset, .unset, .unset, .unset, .unset, .unset, .unset, .unset, .unset, .unset, .unset] [(.int (1 : Int32)), (.int (fr + (1 : Int32))), (.ref b2)]))
      refine Runs.by (fun _ hr => XS.iloadN X5.here hx rfl (hb hby at_50) rfl  hr) ?_
      rcases inv with ⟨rfl, rfl⟩ | ⟨rfl, rfl, LSl⟩ | ⟨rfl, rfl, LSu⟩ | ⟨rfl, rfl, LSl, LSu⟩
      · skip
        by_cases hbit1 : ((p2 >>> ((1 : Int32) &&& 31)) &&& (1 : Int32)) = (0 : Int32)
        · skip
          show Runs p e below _ (T5.setTop (mkF m 51 #[.val (.int p0), .val (.int p1), .val (.int p2), .val (.int p3), .val (.int p4), .val (.int fr), .val (.int tt), .val (.ref b2), .unset, .unset, .unset, .unset, .unset, .unset, .unset, .unset, .unset, .unset, .unset, .unset, .unset, .unset, .unset, .unset] [(.int p2), (.int (1 : Int32)), (.int (fr + (1 : Int32))), (.ref b2)]))
          obtain ⟨_, _, ⟨T239, L239, k239, n239⟩, -, X239, hSq239, hgq239, ⟨Lc239, hQ239, l239, y239, z239, hr239⟩, st239⟩ := callSS X5 hx (y := (⟨"com/example/word_odds/wordodds/filter/VerdictFieldBeginsPinLaw", "nameByte", "(II)B"⟩ : MethodName)) hown (mvT hZ (hw _ (List.mem_of_getElem? (i := 2) rfl))) (mvT hZ (hw _ (List.mem_of_getElem? (i := 3) rfl))) (mvT hZ (hw _ (List.mem_of_getElem? (i := 4) rfl))) (mvT hZ (hw _ (List.mem_of_getElem? (i := 5) rfl))) (by decide) (own_backX (W := 2) (PX := fun _ => True) (rm1_24c l Z a0 hw [] (1 : Int32) p2 gC vG (45 : Int32) (45 : Int32) b2 k2 (own_up wl0 (f + 0) (nar .byte nb0))  h5 n0 (Nat.le_trans Z0 K6.1) (SC.ext O_6.2) cC hvG (SG.ext O_6.2) hbit1 ⟨by decide, by decide⟩ rfl (by decide) (by decide) G5 hEL) hZ (hw _ (List.mem_of_getElem? (i := 5) rfl)) (hw _ (List.mem_of_getElem? (i := 4) rfl)) (by decide) (by decide) hEL hC.1 G5.lt Sf4_b2__K6 (fun _ _ => trivial)) (g := (mkF m 51 #[.val (.int p0), .val (.int p1), .val (.int p2), .val (.int p3), .val (.int p4), .val (.int fr), .val (.int tt), .val (.ref b2), .unset, .unset, .unset, .unset, .unset, .unset, .unset, .unset, .unset, .unset, .unset, .unset, .unset, .unset, .unset, .unset] [(.int p2), (.int (1 : Int32)), (.int (fr + (1 : Int32))), (.ref b2)])) rfl (by rw [hml]; rfl) (argsL := [(.int (1 : Int32)), (.int p2)]) (rest := [(.int (fr + (1 : Int32))), (.ref b2)]) (lenOf pd_11 rfl) rfl (by show 2 * 0 + _ ≤ _; exact Nat.le_of_eq rfl) (hb hby at_51) (fun _ _ => ⟨rfl, e5, (by decide : 1 + 2 ≤ _), (by decide : 24 + 48 ≤ _)⟩)
          dsimp only [Pt.U, Pt.locs, Pt.cells, Pt.slots] at X239 l239 y239 z239 st239 hQ239
          subst l239 y239 z239
          dsimp only [Pt.U, Pt.locs, Pt.cells, Pt.slots] at hSq239 hgq239 hr239
          obtain ⟨X239, hS, hZ, hown⟩ := rebS hS (by rw [e5]; exact hk) X239 hSq239 hgq239 hZ hown
          have hk := Nat.le_refl T239.heap.size
          have Sf4_b2__C239 := CHr.safe hr239 G5.lt Sf4_b2__K6
          have hC := hC.trans hr239
          obtain ⟨rfl, Nq239, Kq239, LSq239⟩ := hQ239
          have N239 := Fr.app N5 Nq239
          have K240 : Keep h0 T239.heap [] := Keep.trans (ws := []) K6 Kq239 all0
          have O_240 : Old Z n0 T239.heap := O_6.keep Kq239 all0
          refine Runs.by (fun _ hr => st239.trans hr) ?_
          exact JC1 nb0 (45 : Int32) _ _ (own_up wl0 (f + 0) (nar .byte nb0)) _ _ _ _ _ X239 rfl N239 K240 O_240 hC hS hk hZ hown (G5.keep Kq239 nin0) Sf4_b2__C239 hnb0 (by decide) (by rw [hwl0]) (Or.inr (Or.inl ⟨rfl, rfl, LSq239⟩))
        · skip
          show Runs p e below _ (T5.setTop (mkF m 51 #[.val (.int p0), .val (.int p1), .val (.int p2), .val (.int p3), .val (.int p4), .val (.int fr), .val (.int tt), .val (.ref b2), .unset, .unset, .unset, .unset, .unset, .unset, .unset, .unset, .unset, .unset, .unset, .unset, .unset, .unset, .unset, .unset] [(.int p2), (.int (1 : Int32)), (.int (fr + (1 : Int32))), (.ref b2)]))
          obtain ⟨_, _, ⟨T241, L241, k241, n241⟩, -, X241, hSq241, hgq241, ⟨Lc241, hQ241, l241, y241, z241, hr241⟩, st241⟩ := callSS X5 hx (y := (⟨"com/example/word_odds/wordodds/filter/VerdictFieldBeginsPinLaw", "nameByte", "(II)B"⟩ : MethodName)) hown (mvT hZ (hw _ (List.mem_of_getElem? (i := 2) rfl))) (mvT hZ (hw _ (List.mem_of_getElem? (i := 3) rfl))) (mvT hZ (hw _ (List.mem_of_getElem? (i := 4) rfl))) (mvT hZ (hw _ (List.mem_of_getElem? (i := 5) rfl))) (by decide) (own_backX (W := 2) (PX := fun _ => True) (rm1_32c l Z a0 hw [] (1 : Int32) p2 gC vG (45 : Int32) (45 : Int32) b2 k2 (own_up wl0 (f + 0) (nar .byte nb0))  h5 n0 (Nat.le_trans Z0 K6.1) (SC.ext O_6.2) cC hvG (SG.ext O_6.2) hbit1 ⟨by decide, by decide⟩ rfl (by decide) (by decide) G5 hEL) hZ (hw _ (List.mem_of_getElem? (i := 5) rfl)) (hw _ (List.mem_of_getElem? (i := 4) rfl)) (by decide) (by decide) hEL hC.1 G5.lt Sf4_b2__K6 (fun _ _ => trivial)) (g := (mkF m 51 #[.val (.int p0), .val (.int p1), .val (.int p2), .val (.int p3), .val (.int p4), .val (.int fr), .val (.int tt), .val (.ref b2), .unset, .unset, .unset, .unset, .unset, .unset, .unset, .unset, .unset, .unset, .unset, .unset, .unset, .unset, .unset, .unset] [(.int p2), (.int (1 : Int32)), (.int (fr + (1 : Int32))), (.ref b2)])) rfl (by rw [hml]; rfl) (argsL := [(.int (1 : Int32)), (.int p2)]) (rest := [(.int (fr + (1 : Int32))), (.ref b2)]) (lenOf pd_11 rfl) rfl (by show 2 * 0 + _ ≤ _; exact Nat.le_of_eq rfl) (hb hby at_51) (fun _ _ => ⟨rfl, e5, (by decide : 1 + 2 ≤ _), (by decide : 24 + 48 ≤ _)⟩)
          dsimp only [Pt.U, Pt.locs, Pt.cells, Pt.slots] at X241 l241 y241 z241 st241 hQ241
          subst l241 y241 z241
          dsimp only [Pt.U, Pt.locs, Pt.cells, Pt.slots] at hSq241 hgq241 hr241
          obtain ⟨X241, hS, hZ, hown⟩ := rebS hS (by rw [e5]; exact hk) X241 hSq241 hgq241 hZ hown
          have hk := Nat.le_refl T241.heap.size
          have Sf4_b2__C241 := CHr.safe hr241 G5.lt Sf4_b2__K6
          have hC := hC.trans hr241
          obtain ⟨rfl, Nq241, Kq241, LSq241⟩ := hQ241
          have N241 := Fr.app N5 Nq241
          have K242 : Keep h0 T241.heap [] := Keep.trans (ws := []) K6 Kq241 all0
          have O_242 : Old Z n0 T241.heap := O_6.keep Kq241 all0
          refine Runs.by (fun _ hr => st241.trans hr) ?_
          exact JC1 nb0 (45 : Int32) _ _ (own_up wl0 (f + 0) (nar .byte nb0)) _ _ _ _ _ X241 rfl N241 K242 O_242 hC hS hk hZ hown (G5.keep Kq241 nin0) Sf4_b2__C241 hnb0 (by decide) (by rw [hwl0]) (Or.inr (Or.inr (Or.inl ⟨rfl, rfl, LSq241⟩)))
      · skip
        by_cases hbit1 : ((p2 >>> ((1 : Int32) &&& 31)) &&& (1 : Int32)) = (0 : Int32)
        · skip
          obtain ⟨la, lb, lk, lLi, lfE, lfC, lfV, lfA, -, -⟩ := id LSl
          show Runs p e below _ (T5.setTop (mkF m 51 #[.val (.int p0), .val (.int p1), .val (.int p2), .val (.int p3), .val (.int p4), .val (.int fr), .val (.int tt), .val (.ref b2), .unset, .unset, .unset, .unset, .unset, .unset, .unset, .unset, .unset, .unset, .unset, .unset, .unset, .unset, .unset, .unset] [(.int p2), (.int (1 : Int32)), (.int (fr + (1 : Int32))), (.ref b2)]))
          obtain ⟨_, _, ⟨T243, L243, k243, n243⟩, -, X243, hSq243, hgq243, ⟨Lc243, hQ243, l243, y243, z243, hr243⟩, st243⟩ := callSS X5 hx (y := (⟨"com/example/word_odds/wordodds/filter/VerdictFieldBeginsPinLaw", "nameByte", "(II)B"⟩ : MethodName)) hown (mvT hZ (hw _ (List.mem_of_getElem? (i := 2) rfl))) (mvT hZ (hw _ (List.mem_of_getElem? (i := 3) rfl))) (mvT hZ (hw _ (List.mem_of_getElem? (i := 4) rfl))) (mvT hZ (hw _ (List.mem_of_getElem? (i := 5) rfl))) (by decide) (own_backX (W := 2) (PX := fun vm_ => Lit (Z.setVm vm_) "com/example/word_odds/wordodds/filter/VerdictFieldBeginsPinLaw" 24 la) (rm1_24w l Z a0 hw [] (1 : Int32) p2 gC vG (45 : Int32) (45 : Int32) b2 k2 (own_up wl0 (f + 0) (nar .byte nb0)) la lb lk  h5 n0 (Nat.le_trans Z0 K6.1) (SC.ext O_6.2) cC hvG (SG.ext O_6.2) hbit1 ⟨by decide, by decide⟩ rfl (by decide) (by decide) G5 lfE lfC lfV lfA hEL) hZ (hw _ (List.mem_of_getElem? (i := 5) rfl)) (hw _ (List.mem_of_getElem? (i := 4) rfl)) (by decide) (by decide) hEL hC.1 G5.lt Sf4_b2__K6 (fun _ q => own_lstay (s := s) lLi q)) (g := (mkF m 51 #[.val (.int p0), .val (.int p1), .val (.int p2), .val (.int p3), .val (.int p4), .val (.int fr), .val (.int tt), .val (.ref b2), .unset, .unset, .unset, .unset, .unset, .unset, .unset, .unset, .unset, .unset, .unset, .unset, .unset, .unset, .unset, .unset] [(.int p2), (.int (1 : Int32)), (.int (fr + (1 : Int32))), (.ref b2)])) rfl (by rw [hml]; rfl) (argsL := [(.int (1 : Int32)), (.int p2)]) (rest := [(.int (fr + (1 : Int32))), (.ref b2)]) (lenOf pd_11 rfl) rfl (by show 2 * 0 + _ ≤ _; exact Nat.le_of_eq rfl) (hb hby at_51) (fun _ _ => ⟨rfl, e5, (by decide : 3 + 0 ≤ _), (by decide : 72 + 0 ≤ _)⟩)
          dsimp only [Pt.U, Pt.locs, Pt.cells, Pt.slots] at X243 l243 y243 z243 st243 hQ243
          subst l243 y243 z243
          dsimp only [Pt.U, Pt.locs, Pt.cells, Pt.slots] at hSq243 hgq243 hr243
          obtain ⟨X243, hS, hZ, hown⟩ := rebS hS (by rw [e5]; exact hk) X243 hSq243 hgq243 hZ hown
          have hk := Nat.le_refl T243.heap.size
          have Sf4_b2__C243 := CHr.safe hr243 G5.lt Sf4_b2__K6
          have hC := hC.trans hr243
          obtain ⟨rfl, Nq243, Kq243⟩ := hQ243
          have N243 := Fr.app N5 Nq243
          have K244 : Keep h0 T243.heap [] := Keep.trans (ws := []) K6 Kq243 all0
          have O_244 : Old Z n0 T243.heap := O_6.keep Kq243 all0
          refine Runs.by (fun _ hr => st243.trans hr) ?_
          exact JC1 nb0 (45 : Int32) _ _ (own_up wl0 (f + 0) (nar .byte nb0)) _ _ _ _ _ X243 rfl N243 K244 O_244 hC hS hk hZ hown (G5.keep Kq243 nin0) Sf4_b2__C243 hnb0 (by decide) (by rw [hwl0]) (Or.inr (Or.inl ⟨rfl, rfl, (LSl.step hSq243.1 Kq243)⟩))
        · skip
          show Runs p e below _ (T5.setTop (mkF m 51 #[.val (.int p0), .val (.int p1), .val (.int p2), .val (.int p3), .val (.int p4), .val (.int fr), .val (.int tt), .val (.ref b2), .unset, .unset, .unset, .unset, .unset, .unset, .unset, .unset, .unset, .unset, .unset, .unset, .unset, .unset, .unset, .unset] [(.int p2), (.int (1 : Int32)), (.int (fr + (1 : Int32))), (.ref b2)]))
          obtain ⟨_, _, ⟨T245, L245, k245, n245⟩, -, X245, hSq245, hgq245, ⟨Lc245, hQ245, l245, y245, z245, hr245⟩, st245⟩ := callSS X5 hx (y := (⟨"com/example/word_odds/wordodds/filter/VerdictFieldBeginsPinLaw", "nameByte", "(II)B"⟩ : MethodName)) hown (mvT hZ (hw _ (List.mem_of_getElem? (i := 2) rfl))) (mvT hZ (hw _ (List.mem_of_getElem? (i := 3) rfl))) (mvT hZ (hw _ (List.mem_of_getElem? (i := 4) rfl))) (mvT hZ (hw _ (List.mem_of_getElem? (i := 5) rfl))) (by decide) (own_backX (W := 2) (PX := fun _ => True) (rm1_32c l Z a0 hw [] (1 : Int32) p2 gC vG (45 : Int32) (45 : Int32) b2 k2 (own_up wl0 (f + 0) (nar .byte nb0))  h5 n0 (Nat.le_trans Z0 K6.1) (SC.ext O_6.2) cC hvG (SG.ext O_6.2) hbit1 ⟨by decide, by decide⟩ rfl (by decide) (by decide) G5 hEL) hZ (hw _ (List.mem_of_getElem? (i := 5) rfl)) (hw _ (List.mem_of_getElem? (i := 4) rfl)) (by decide) (by decide) hEL hC.1 G5.lt Sf4_b2__K6 (fun _ _ => trivial)) (g := (mkF m 51 #[.val (.int p0), .val (.int p1), .val (.int p2), .val (.int p3), .val (.int p4), .val (.int fr), .val (.int tt), .val (.ref b2), .unset, .unset, .unset, .unset, .unset, .unset, .unset, .unset, .unset, .unset, .unset, .unset, .unset, .unset, .unset, .unset] [(.int p2), (.int (1 : Int32)), (.int (fr + (1 : Int32))), (.ref b2)])) rfl (by rw [hml]; rfl) (argsL := [(.int (1 : Int32)), (.int p2)]) (rest := [(.int (fr + (1 : Int32))), (.ref b2)]) (lenOf pd_11 rfl) rfl (by show 2 * 0 + _ ≤ _; exact Nat.le_of_eq rfl) (hb hby at_51) (fun _ _ => ⟨rfl, e5, (by decide : 3 + 2 ≤ _), (by decide : 72 + 48 ≤ _)⟩)
          dsimp only [Pt.U, Pt.locs, Pt.cells, Pt.slots] at X245 l245 y245 z245 st245 hQ245
          subst l245 y245 z245
          dsimp only [Pt.U, Pt.locs, Pt.cells, Pt.slots] at hSq245 hgq245 hr245
          obtain ⟨X245, hS, hZ, hown⟩ := rebS hS (by rw [e5]; exact hk) X245 hSq245 hgq245 hZ hown
          have hk := Nat.le_refl T245.heap.size
          have Sf4_b2__C245 := CHr.safe hr245 G5.lt Sf4_b2__K6
          have hC := hC.trans hr245
          obtain ⟨rfl, Nq245, Kq245, LSq245⟩ := hQ245
          have N245 := Fr.app N5 Nq245
          have K246 : Keep h0 T245.heap [] := Keep.trans (ws := []) K6 Kq245 all0
          have O_246 : Old Z n0 T245.heap := O_6.keep Kq245 all0
          refine Runs.by (fun _ hr => st245.trans hr) ?_
          exact JC1 nb0 (45 : Int32) _ _ (own_up wl0 (f + 0) (nar .byte nb0)) _ _ _ _ _ X245 rfl N245 K246 O_246 hC hS hk hZ hown (G5.keep Kq245 nin0) Sf4_b2__C245 hnb0 (by decide) (by rw [hwl0]) (Or.inr (Or.inr (Or.inr ⟨rfl, rfl, (LSl.step hSq245.1 Kq245), LSq245⟩)))
      · skip
        by_cases hbit1 : ((p2 >>> ((1 : Int32) &&& 31)) &&& (1 : Int32)) = (0 : Int32)
        · skip
          show Runs p e below _ (T5.setTop (mkF m 51 #[.val (.int p0), .val (.int p1), .val (.int p2), .val (.int p3), .val (.int p4), .val (.int fr), .val (.int tt), .val (.ref b2), .unset, .unset, .unset, .unset, .unset, .unset, .unset, .unset, .unset, .unset, .unset, .unset, .unset, .unset, .unset, .unset] [(.int p2), (.int (1 : Int32)), (.int (fr + (1 : Int32))), (.ref b2)]))
          obtain ⟨_, _, ⟨T247, L247, k247, n247⟩, -, X247, hSq247, hgq247, ⟨Lc247, hQ247, l247, y247, z247, hr247⟩, st247⟩ := callSS X5 hx (y := (⟨"com/example/word_odds/wordodds/filter/VerdictFieldBeginsPinLaw", "nameByte", "(II)B"⟩ : MethodName)) hown (mvT hZ (hw _ (List.mem_of_getElem? (i := 2) rfl))) (mvT hZ (hw _ (List.mem_of_getElem? (i := 3) rfl))) (mvT hZ (hw _ (List.mem_of_getElem? (i := 4) rfl))) (mvT hZ (hw _ (List.mem_of_getElem? (i := 5) rfl))) (by decide) (own_backX (W := 2) (PX := fun _ => True) (rm1_24c l Z a0 hw [] (1 : Int32) p2 gC vG (45 : Int32) (45 : Int32) b2 k2 (own_up wl0 (f + 0) (nar .byte nb0))  h5 n0 (Nat.le_trans Z0 K6.1) (SC.ext O_6.2) cC hvG (SG.ext O_6.2) hbit1 ⟨by decide, by decide⟩ rfl (by decide) (by decide) G5 hEL) hZ (hw _ (List.mem_of_getElem? (i := 5) rfl)) (hw _ (List.mem_of_getElem? (i := 4) rfl)) (by decide) (by decide) hEL hC.1 G5.lt Sf4_b2__K6 (fun _ _ => trivial)) (g := (mkF m 51 #[.val (.int p0), .val (.int p1), .val (.int p2), .val (.int p3), .val (.int p4), .val (.int fr), .val (.int tt), .val (.ref b2), .unset, .unset, .unset, .unset, .unset, .unset, .unset, .unset, .unset, .unset, .unset, .unset, .unset, .unset, .unset, .unset] [(.int p2), (.int (1 : Int32)), (.int (fr + (1 : Int32))), (.ref b2)])) rfl (by rw [hml]; rfl) (argsL := [(.int (1 : Int32)), (.int p2)]) (rest := [(.int (fr + (1 : Int32))), (.ref b2)]) (lenOf pd_11 rfl) rfl (by show 2 * 0 + _ ≤ _; exact Nat.le_of_eq rfl) (hb hby at_51) (fun _ _ => ⟨rfl, e5, (by decide : 3 + 2 ≤ _), (by decide : 72 + 48 ≤ _)⟩)
          dsimp only [Pt.U, Pt.locs, Pt.cells, Pt.slots] at X247 l247 y247 z247 st247 hQ247
          subst l247 y247 z247
          dsimp only [Pt.U, Pt.locs, Pt.cells, Pt.slots] at hSq247 hgq247 hr247
          obtain ⟨X247, hS, hZ, hown⟩ := rebS hS (by rw [e5]; exact hk) X247 hSq247 hgq247 hZ hown
          have hk := Nat.le_refl T247.heap.size
          have Sf4_b2__C247 := CHr.safe hr247 G5.lt Sf4_b2__K6
          have hC := hC.trans hr247
          obtain ⟨rfl, Nq247, Kq247, LSq247⟩ := hQ247
          have N247 := Fr.app N5 Nq247
          have K248 : Keep h0 T247.heap [] := Keep.trans (ws := []) K6 Kq247 all0
          have O_248 : Old Z n0 T247.heap := O_6.keep Kq247 all0
          refine Runs.by (fun _ hr => st247.trans hr) ?_
          exact JC1 nb0 (45 : Int32) _ _ (own_up wl0 (f + 0) (nar .byte nb0)) _ _ _ _ _ X247 rfl N247 K248 O_248 hC hS hk hZ hown (G5.keep Kq247 nin0) Sf4_b2__C247 hnb0 (by decide) (by rw [hwl0]) (Or.inr (Or.inr (Or.inr ⟨rfl, rfl, LSq247, (LSu.step hSq247.1 Kq247)⟩)))
        · skip
          obtain ⟨la, lb, lk, lLi, lfE, lfC, lfV, lfA, -, -⟩ := id LSu
          show Runs p e below _ (T5.setTop (mkF m 51 #[.val (.int p0), .val (.int p1), .val (.int p2), .val (.int p3), .val (.int p4), .val (.int fr), .val (.int tt), .val (.ref b2), .unset, .unset, .unset, .unset, .unset, .unset, .unset, .unset, .unset, .unset, .unset, .unset, .unset, .unset, .unset, .unset] [(.int p2), (.int (1 : Int32)), (.int (fr + (1 : Int32))), (.ref b2)]))
          obtain ⟨_, _, ⟨T249, L249, k249, n249⟩, -, X249, hSq249, hgq249, ⟨Lc249, hQ249, l249, y249, z249, hr249⟩, st249⟩ := callSS X5 hx (y := (⟨"com/example/word_odds/wordodds/filter/VerdictFieldBeginsPinLaw", "nameByte", "(II)B"⟩ : MethodName)) hown (mvT hZ (hw _ (List.mem_of_getElem? (i := 2) rfl))) (mvT hZ (hw _ (List.mem_of_getElem? (i := 3) rfl))) (mvT hZ (hw _ (List.mem_of_getElem? (i := 4) rfl))) (mvT hZ (hw _ (List.mem_of_getElem? (i := 5) rfl))) (by decide) (own_backX (W := 2) (PX := fun vm_ => Lit (Z.setVm vm_) "com/example/word_odds/wordodds/filter/VerdictFieldBeginsPinLaw" 32 la) (rm1_32w l Z a0 hw [] (1 : Int32) p2 gC vG (45 : Int32) (45 : Int32) b2 k2 (own_up wl0 (f + 0) (nar .byte nb0)) la lb lk  h5 n0 (Nat.le_trans Z0 K6.1) (SC.ext O_6.2) cC hvG (SG.ext O_6.2) hbit1 ⟨by decide, by decide⟩ rfl (by decide) (by decide) G5 lfE lfC lfV lfA hEL) hZ (hw _ (List.mem_of_getElem? (i := 5) rfl)) (hw _ (List.mem_of_getElem? (i := 4) rfl)) (by decide) (by decide) hEL hC.1 G5.lt Sf4_b2__K6 (fun _ q => own_lstay (s := s) lLi q)) (g := (mkF m 51 #[.val (.int p0), .val (.int p1), .val (.int p2), .val (.int p3), .val (.int p4), .val (.int fr), .val (.int tt), .val (.ref b2), .unset, .unset, .unset, .unset, .unset, .unset, .unset, .unset, .unset, .unset, .unset, .unset, .unset, .unset, .unset, .unset] [(.int p2), (.int (1 : Int32)), (.int (fr + (1 : Int32))), (.ref b2)])) rfl (by rw [hml]; rfl) (argsL := [(.int (1 : Int32)), (.int p2)]) (rest := [(.int (fr + (1 : Int32))), (.ref b2)]) (lenOf pd_11 rfl) rfl (by show 2 * 0 + _ ≤ _; exact Nat.le_of_eq rfl) (hb hby at_51) (fun _ _ => ⟨rfl, e5, (by decide : 3 + 0 ≤ _), (by decide : 72 + 0 ≤ _)⟩)
          dsimp only [Pt.U, Pt.locs, Pt.cells, Pt.slots] at X249 l249 y249 z249 st249 hQ249
          subst l249 y249 z249
          dsimp only [Pt.U, Pt.locs, Pt.cells, Pt.slots] at hSq249 hgq249 hr249
          obtain ⟨X249, hS, hZ, hown⟩ := rebS hS (by rw [e5]; exact hk) X249 hSq249 hgq249 hZ hown
          have hk := Nat.le_refl T249.heap.size
          have Sf4_b2__C249 := CHr.safe hr249 G5.lt Sf4_b2__K6
          have hC := hC.trans hr249
          obtain ⟨rfl, Nq249, Kq249⟩ := hQ249
          have N249 := Fr.app N5 Nq249
          have K250 : Keep h0 T249.heap [] := Keep.trans (ws := []) K6 Kq249 all0
          have O_250 : Old Z n0 T249.heap := O_6.keep Kq249 all0
          refine Runs.by (fun _ hr => st249.trans hr) ?_
          exact JC1 nb0 (45 : Int32) _ _ (own_up wl0 (f + 0) (nar .byte nb0)) _ _ _ _ _ X249 rfl N249 K250 O_250 hC hS hk hZ hown (G5.keep Kq249 nin0) Sf4_b2__C249 hnb0 (by decide) (by rw [hwl0]) (Or.inr (Or.inr (Or.inl ⟨rfl, rfl, (LSu.step hSq249.1 Kq249)⟩)))
      · skip
        by_cases hbit1 : ((p2 >>> ((1 : Int32) &&& 31)) &&& (1 : Int32)) = (0 : Int32)
        · skip
          obtain ⟨la, lb, lk, lLi, lfE, lfC, lfV, lfA, -, -⟩ := id LSl
          show Runs p e below _ (T5.setTop (mkF m 51 #[.val (.int p0), .val (.int p1), .val (.int p2), .val (.int p3), .val (.int p4), .val (.int fr), .val (.int tt), .val (.ref b2), .unset, .unset, .unset, .unset, .unset, .unset, .unset, .unset, .unset, .unset, .unset, .unset, .unset, .unset, .unset, .unset] [(.int p2), (.int (1 : Int32)), (.int (fr + (1 : Int32))), (.ref b2)]))
          obtain ⟨_, _, ⟨T251, L251, k251, n251⟩, -, X251, hSq251, hgq251, ⟨Lc251, hQ251, l251, y251, z251, hr251⟩, st251⟩ := callSS X5 hx (y := (⟨"com/example/word_odds/wordodds/filter/VerdictFieldBeginsPinLaw", "nameByte", "(II)B"⟩ : MethodName)) hown (mvT hZ (hw _ (List.mem_of_getElem? (i := 2) rfl))) (mvT hZ (hw _ (List.mem_of_getElem? (i := 3) rfl))) (mvT hZ (hw _ (List.mem_of_getElem? (i := 4) rfl))) (mvT hZ (hw _ (List.mem_of_getElem? (i := 5) rfl))) (by decide) (own_backX (W := 2) (PX := fun vm_ => Lit (Z.setVm vm_) "com/example/word_odds/wordodds/filter/VerdictFieldBeginsPinLaw" 24 la) (rm1_24w l Z a0 hw [] (1 : Int32) p2 gC vG (45 : Int32) (45 : Int32) b2 k2 (own_up wl0 (f + 0) (nar .byte nb0)) la lb lk  h5 n0 (Nat.le_trans Z0 K6.1) (SC.ext O_6.2) cC hvG (SG.ext O_6.2) hbit1 ⟨by decide, by decide⟩ rfl (by decide) (by decide) G5 lfE lfC lfV lfA hEL) hZ (hw _ (List.mem_of_getElem? (i := 5) rfl)) (hw _ (List.mem_of_getElem? (i := 4) rfl)) (by decide) (by decide) hEL hC.1 G5.lt Sf4_b2__K6 (fun _ q => own_lstay (s := s) lLi q)) (g := (mkF m 51 #[.val (.int p0), .val (.int p1), .val (.int p2), .val (.int p3), .val (.int p4), .val (.int fr), .val (.int tt), .val (.ref b2), .unset, .unset, .unset, .unset, .unset, .unset, .unset, .unset, .unset, .unset, .unset, .unset, .unset, .unset, .unset, .unset] [(.int p2), (.int (1 : Int32)), (.int (fr + (1 : Int32))), (.ref b2)])) rfl (by rw [hml]; rfl) (argsL := [(.int (1 : Int32)), (.int p2)]) (rest := [(.int (fr + (1 : Int32))), (.ref b2)]) (lenOf pd_11 rfl) rfl (by show 2 * 0 + _ ≤ _; exact Nat.le_of_eq rfl) (hb hby at_51) (fun _ _ => ⟨rfl, e5, (by decide : 5 + 0 ≤ _), (by decide : 120 + 0 ≤ _)⟩)
          dsimp only [Pt.U, Pt.locs, Pt.cells, Pt.slots] at X251 l251 y251 z251 st251 hQ251
          subst l251 y251 z251
          dsimp only [Pt.U, Pt.locs, Pt.cells, Pt.slots] at hSq251 hgq251 hr251
          obtain ⟨X251, hS, hZ, hown⟩ := rebS hS (by rw [e5]; exact hk) X251 hSq251 hgq251 hZ hown
          have hk := Nat.le_refl T251.heap.size
          have Sf4_b2__C251 := CHr.safe hr251 G5.lt Sf4_b2__K6
          have hC := hC.trans hr251
          obtain ⟨rfl, Nq251, Kq251⟩ := hQ251
          have N251 := Fr.app N5 Nq251
          have K252 : Keep h0 T251.heap [] := Keep.trans (ws := []) K6 Kq251 all0
          have O_252 : Old Z n0 T251.heap := O_6.keep Kq251 all0
          refine Runs.by (fun _ hr => st251.trans hr) ?_
          exact JC1 nb0 (45 : Int32) _ _ (own_up wl0 (f + 0) (nar .byte nb0)) _ _ _ _ _ X251 rfl N251 K252 O_252 hC hS hk hZ hown (G5.keep Kq251 nin0) Sf4_b2__C251 hnb0 (by decide) (by rw [hwl0]) (Or.inr (Or.inr (Or.inr ⟨rfl, rfl, (LSl.step hSq251.1 Kq251), (LSu.step hSq251.1 Kq251)⟩)))
        · skip
          obtain ⟨la, lb, lk, lLi, lfE, lfC, lfV, lfA, -, -⟩ := id LSu
          show Runs p e below _ (T5.setTop (mkF m 51 #[.val (.int p0), .val (.int p1), .val (.int p2), .val (.int p3), .val (.int p4), .val (.int fr), .val (.int tt), .val (.ref b2), .unset, .unset, .unset, .unset, .unset, .unset, .unset, .unset, .unset, .unset, .unset, .unset, .unset, .unset, .unset, .unset] [(.int p2), (.int (1 : Int32)), (.int (fr + (1 : Int32))), (.ref b2)]))
          obtain ⟨_, _, ⟨T253, L253, k253, n253⟩, -, X253, hSq253, hgq253, ⟨Lc253, hQ253, l253, y253, z253, hr253⟩, st253⟩ := callSS X5 hx (y := (⟨"com/example/word_odds/wordodds/filter/VerdictFieldBeginsPinLaw", "nameByte", "(II)B"⟩ : MethodName)) hown (mvT hZ (hw _ (List.mem_of_getElem? (i := 2) rfl))) (mvT hZ (hw _ (List.mem_of_getElem? (i := 3) rfl))) (mvT hZ (hw _ (List.mem_of_getElem? (i := 4) rfl))) (mvT hZ (hw _ (List.mem_of_getElem? (i := 5) rfl))) (by decide) (own_backX (W := 2) (PX := fun vm_ => Lit (Z.setVm vm_) "com/example/word_odds/wordodds/filter/VerdictFieldBeginsPinLaw" 32 la) (rm1_32w l Z a0 hw [] (1 : Int32) p2 gC vG (45 : Int32) (45 : Int32) b2 k2 (own_up wl0 (f + 0) (nar .byte nb0)) la lb lk  h5 n0 (Nat.le_trans Z0 K6.1) (SC.ext O_6.2) cC hvG (SG.ext O_6.2) hbit1 ⟨by decide, by decide⟩ rfl (by decide) (by decide) G5 lfE lfC lfV lfA hEL) hZ (hw _ (List.mem_of_getElem? (i := 5) rfl)) (hw _ (List.mem_of_getElem? (i := 4) rfl)) (by decide) (by decide) hEL hC.1 G5.lt Sf4_b2__K6 (fun _ q => own_lstay (s := s) lLi q)) (g := (mkF m 51 #[.val (.int p0), .val (.int p1), .val (.int p2), .val (.int p3), .val (.int p4), .val (.int fr), .val (.int tt), .val (.ref b2), .unset, .unset, .unset, .unset, .unset, .unset, .unset, .unset, .unset, .unset, .unset, .unset, .unset, .unset, .unset, .unset] [(.int p2), (.int (1 : Int32)), (.int (fr + (1 : Int32))), (.ref b2)])) rfl (by rw [hml]; rfl) (argsL := [(.int (1 : Int32)), (.int p2)]) (rest := [(.int (fr + (1 : Int32))), (.ref b2)]) (lenOf pd_11 rfl) rfl (by show 2 * 0 + _ ≤ _; exact Nat.le_of_eq rfl) (hb hby at_51) (fun _ _ => ⟨rfl, e5, (by decide : 5 + 0 ≤ _), (by decide : 120 + 0 ≤ _)⟩)
          dsimp only [Pt.U, Pt.locs, Pt.cells, Pt.slots] at X253 l253 y253 z253 st253 hQ253
          subst l253 y253 z253
          dsimp only [Pt.U, Pt.locs, Pt.cells, Pt.slots] at hSq253 hgq253 hr253
          obtain ⟨X253, hS, hZ, hown⟩ := rebS hS (by rw [e5]; exact hk) X253 hSq253 hgq253 hZ hown
          have hk := Nat.le_refl T253.heap.size
          have Sf4_b2__C253 := CHr.safe hr253 G5.lt Sf4_b2__K6
          have hC := hC.trans hr253
          obtain ⟨rfl, Nq253, Kq253⟩ := hQ253
          have N253 := Fr.app N5 Nq253
          have K254 : Keep h0 T253.heap [] := Keep.trans (ws := []) K6 Kq253 all0
          have O_254 : Old Z n0 T253.heap := O_6.keep Kq253 all0
          refine Runs.by (fun _ hr => st253.trans hr) ?_
          exact JC1 nb0 (45 : Int32) _ _ (own_up wl0 (f + 0) (nar .byte nb0)) _ _ _ _ _ X253 rfl N253 K254 O_254 hC hS hk hZ hown (G5.keep Kq253 nin0) Sf4_b2__C253 hnb0 (by decide) (by rw [hwl0]) (Or.inr (Or.inr (Or.inr ⟨rfl, rfl, (LSl.step hSq253.1 Kq253), (LSu.step hSq253.1 Kq253)⟩)))
    by_cases hbit0 : ((p2 >>> ((0 : Int32) &&& 31)) &&& (1 : Int32)) = (0 : Int32)
    · skip
      show Runs p e below _ (T2.setTop (mkF m 39 #[.val (.int p0), .val (.int p1), .val (.int p2), .val (.int p3), .val (.int p4), .val (.int fr), .val (.int tt), .val (.ref b2), .unset, .unset, .unset, .unset, .unset, .unset, .unset, .unset, .unset, .unset, .unset, .unset, .unset, .unset, .unset, .unset] [(.int p2), (.int (0 : Int32)), (.int fr), (.ref b2)]))
      obtain ⟨_, _, ⟨T255, L255, k255, n255⟩, -, X255, hSq255, hgq255, ⟨Lc255, hQ255, l255, y255, z255, hr255⟩, st255⟩ := callSS X2 hx (y := (⟨"com/example/word_odds/wordodds/filter/VerdictFieldBeginsPinLaw", "nameByte", "(II)B"⟩ : MethodName)) hown (mvT hZ (hw _ (List.mem_of_getElem? (i := 2) rfl))) (mvT hZ (hw _ (List.mem_of_getElem? (i := 3) rfl))) (mvT hZ (hw _ (List.mem_of_getElem? (i := 4) rfl))) (mvT hZ (hw _ (List.mem_of_getElem? (i := 5) rfl))) (by decide) (own_backX (W := 2) (PX := fun _ => True) (rm1_24c l Z a0 hw [] (0 : Int32) p2 gC vG (120 : Int32) (120 : Int32) b2 k2 (fun _ => (0 : Int32))  h2 n0 (Nat.le_trans Z0 K3.1) (SC.ext O_3.2) cC hvG (SG.ext O_3.2) hbit0 ⟨by decide, by decide⟩ rfl (by decide) (by decide) G2 hEL) hZ (hw _ (List.mem_of_getElem? (i := 5) rfl)) (hw _ (List.mem_of_getElem? (i := 4) rfl)) (by decide) (by decide) hEL hC.1 G2.lt Sf_b2__K3 (fun _ _ => trivial)) (g := (mkF m 39 #[.val (.int p0), .val (.int p1), .val (.int p2), .val (.int p3), .val (.int p4), .val (.int fr), .val (.int tt), .val (.ref b2), .unset, .unset, .unset, .unset, .unset, .unset, .unset, .unset, .unset, .unset, .unset, .unset, .unset, .unset, .unset, .unset] [(.int p2), (.int (0 : Int32)), (.int fr), (.ref b2)])) rfl (by rw [hml]; rfl) (argsL := [(.int (0 : Int32)), (.int p2)]) (rest := [(.int fr), (.ref b2)]) (lenOf pd_11 rfl) rfl (by show 2 * 0 + _ ≤ _; exact Nat.le_of_eq rfl) (hb hby at_39) (fun _ _ => ⟨rfl, e2, (by decide : 1 + 2 ≤ _), (by decide : 24 + 48 ≤ _)⟩)
      dsimp only [Pt.U, Pt.locs, Pt.cells, Pt.slots] at X255 l255 y255 z255 st255 hQ255
      subst l255 y255 z255
      dsimp only [Pt.U, Pt.locs, Pt.cells, Pt.slots] at hSq255 hgq255 hr255
      obtain ⟨X255, hS, hZ, hown⟩ := rebS hS (by rw [e2]; exact hk) X255 hSq255 hgq255 hZ hown
      have hk := Nat.le_refl T255.heap.size
      have Sf_b2__C255 := CHr.safe hr255 G2.lt Sf_b2__K3
      have hC := hC.trans hr255
      obtain ⟨rfl, Nq255, Kq255, LSq255⟩ := hQ255
      have N255 := Fr.app NJ1 Nq255
      have K256 : Keep h0 T255.heap [] := Keep.trans (ws := []) K3 Kq255 all0
      have O_256 : Old Z n0 T255.heap := O_3.keep Kq255 all0
      refine Runs.by (fun _ hr => st255.trans hr) ?_
      exact JC0 (120 : Int32) _ _ (fun _ => (0 : Int32)) _ _ _ _ _ X255 rfl N255 K256 O_256 hC hS hk hZ hown (G2.keep Kq255 nin0) Sf_b2__C255 (by decide) rfl (Or.inr (Or.inl ⟨rfl, rfl, LSq255⟩))
    · skip
      show Runs p e below _ (T2.setTop (mkF m 39 #[.val (.int p0), .val (.int p1), .val (.int p2), .val (.int p3), .val (.int p4), .val (.int fr), .val (.int tt), .val (.ref b2), .unset, .unset, .unset, .unset, .unset, .unset, .unset, .unset, .unset, .unset, .unset, .unset, .unset, .unset, .unset, .unset] [(.int p2), (.int (0 : Int32)), (.int fr), (.ref b2)]))
      obtain ⟨_, _, ⟨T257, L257, k257, n257⟩, -, X257, hSq257, hgq257, ⟨Lc257, hQ257, l257, y257, z257, hr257⟩, st257⟩ := callSS X2 hx (y := (⟨"com/example/word_odds/wordodds/filter/VerdictFieldBeginsPinLaw", "nameByte", "(II)B"⟩ : MethodName)) hown (mvT hZ (hw _ (List.mem_of_getElem? (i := 2) rfl))) (mvT hZ (hw _ (List.mem_of_getElem? (i := 3) rfl))) (mvT hZ (hw _ (List.mem_of_getElem? (i := 4) rfl))) (mvT hZ (hw _ (List.mem_of_getElem? (i := 5) rfl))) (by decide) (own_backX (W := 2) (PX := fun _ => True) (rm1_32c l Z a0 hw [] (0 : Int32) p2 gC vG (88 : Int32) (88 : Int32) b2 k2 (fun _ => (0 : Int32))  h2 n0 (Nat.le_trans Z0 K3.1) (SC.ext O_3.2) cC hvG (SG.ext O_3.2) hbit0 ⟨by decide, by decide⟩ rfl (by decide) (by decide) G2 hEL) hZ (hw _ (List.mem_of_getElem? (i := 5) rfl)) (hw _ (List.mem_of_getElem? (i := 4) rfl)) (by decide) (by decide) hEL hC.1 G2.lt Sf_b2__K3 (fun _ _ => trivial)) (g := (mkF m 39 #[.val (.int p0), .val (.int p1), .val (.int p2), .val (.int p3), .val (.int p4), .val (.int fr), .val (.int tt), .val (.ref b2), .unset, .unset, .unset, .unset, .unset, .unset, .unset, .unset, .unset, .unset, .unset, .unset, .unset, .unset, .unset, .unset] [(.int p2), (.int (0 : Int32)), (.int fr), (.ref b2)])) rfl (by rw [hml]; rfl) (argsL := [(.int (0 : Int32)), (.int p2)]) (rest := [(.int fr), (.ref b2)]) (lenOf pd_11 rfl) rfl (by show 2 * 0 + _ ≤ _; exact Nat.le_of_eq rfl) (hb hby at_39) (fun _ _ => ⟨rfl, e2, (by decide : 1 + 2 ≤ _), (by decide : 24 + 48 ≤ _)⟩)
      dsimp only [Pt.U, Pt.locs, Pt.cells, Pt.slots] at X257 l257 y257 z257 st257 hQ257
      subst l257 y257 z257
      dsimp only [Pt.U, Pt.locs, Pt.cells, Pt.slots] at hSq257 hgq257 hr257
      obtain ⟨X257, hS, hZ, hown⟩ := rebS hS (by rw [e2]; exact hk) X257 hSq257 hgq257 hZ hown
      have hk := Nat.le_refl T257.heap.size
      have Sf_b2__C257 := CHr.safe hr257 G2.lt Sf_b2__K3
      have hC := hC.trans hr257
      obtain ⟨rfl, Nq257, Kq257, LSq257⟩ := hQ257
      have N257 := Fr.app NJ1 Nq257
      have K258 : Keep h0 T257.heap [] := Keep.trans (ws := []) K3 Kq257 all0
      have O_258 : Old Z n0 T257.heap := O_3.keep Kq257 all0
      refine Runs.by (fun _ hr => st257.trans hr) ?_
      exact JC0 (88 : Int32) _ _ (fun _ => (0 : Int32)) _ _ _ _ _ X257 rfl N257 K258 O_258 hC hS hk hZ hown (G2.keep Kq257 nin0) Sf_b2__C257 (by decide) rfl (Or.inr (Or.inr (Or.inl ⟨rfl, rfl, LSq257⟩)))
  refine Runs.by (fun _ hr => XS.iloadN X0.here hx rfl (hb hby at_5) rfl  hr) ?_
  show Runs p e below _ (s₁.setTop (mkF m 6 #[.val (.int p0), .val (.int p1), .val (.int p2), .val (.int p3), .val (.int p4), .val (.int fr), .unset, .unset, .unset, .unset, .unset, .unset, .unset, .unset, .unset, .unset, .unset, .unset, .unset, .unset, .unset, .unset, .unset, .unset] [(.int p0)]))
  refine Runs.by (fun _ hr => XS.iconst X0.here hx rfl (hb hby at_6) hr) ?_
  show Runs p e below _ (s₁.setTop (mkF m 7 #[.val (.int p0), .val (.int p1), .val (.int p2), .val (.int p3), .val (.int p4), .val (.int fr), .unset, .unset, .unset, .unset, .unset, .unset, .unset, .unset, .unset, .unset, .unset, .unset, .unset, .unset, .unset, .unset, .unset, .unset] [(.int (4 : Int32)), (.int p0)]))
  refine Runs.by (fun _ hr => XS.iand X0.here hx rfl (hb hby at_7) rfl hr) ?_
  by_cases hc8 : (p0 &&& (4 : Int32)) = (0 : Int32)
  · -- pc 8: (p0 &&& (4 : Int32)) = (0 : Int32)
    refine Runs.by (fun _ hr => XS.ifYes X0.here hx rfl (pc0 := 8) (pc' := 15) rfl (hb hby at_8) rfl ((if0 _ _).trans (teq hc8).1) (by decide) (by decide) hr) ?_
    refine Runs.by (fun _ hr => XS.iload X0.here hx rfl (hb hby at_15) rfl  hr) ?_
    show Runs p e below _ (s₁.setTop (mkF m 17 #[.val (.int p0), .val (.int p1), .val (.int p2), .val (.int p3), .val (.int p4), .val (.int fr), .unset, .unset, .unset, .unset, .unset, .unset, .unset, .unset, .unset, .unset, .unset, .unset, .unset, .unset, .unset, .unset, .unset, .unset] [(.int fr)]))
    refine Runs.by (fun _ hr => XS.iloadN X0.here hx rfl (hb hby at_17) rfl  hr) ?_
    show Runs p e below _ (s₁.setTop (mkF m 18 #[.val (.int p0), .val (.int p1), .val (.int p2), .val (.int p3), .val (.int p4), .val (.int fr), .unset, .unset, .unset, .unset, .unset, .unset, .unset, .unset, .unset, .unset, .unset, .unset, .unset, .unset, .unset, .unset, .unset, .unset] [(.int p1), (.int fr)]))
    refine Runs.by (fun _ hr => X0.ldcI hx hown (mvT hZ (hw _ (List.mem_of_getElem? (i := 0) rfl))) (g := (mkF m 18 #[.val (.int p0), .val (.int p1), .val (.int p2), .val (.int p3), .val (.int p4), .val (.int fr), .unset, .unset, .unset, .unset, .unset, .unset, .unset, .unset, .unset, .unset, .unset, .unset, .unset, .unset, .unset, .unset, .unset, .unset] [(.int p1), (.int fr)])) rfl (hb hby at_18) hr) ?_
    show Runs p e below _ (s₁.setTop (mkF m 20 #[.val (.int p0), .val (.int p1), .val (.int p2), .val (.int p3), .val (.int p4), .val (.int fr), .unset, .unset, .unset, .unset, .unset, .unset, .unset, .unset, .unset, .unset, .unset, .unset, .unset, .unset, .unset, .unset, .unset, .unset] [(.int (2147483647 : Int32)), (.int p1), (.int fr)]))
    refine Runs.by (fun _ hr => XS.iand X0.here hx rfl (hb hby at_20) rfl hr) ?_
    refine Runs.by (fun _ hr => XS.bipush X0.here hx rfl (hb hby at_21) hr) ?_
    show Runs p e below _ (s₁.setTop (mkF m 23 #[.val (.int p0), .val (.int p1), .val (.int p2), .val (.int p3), .val (.int p4), .val (.int fr), .unset, .unset, .unset, .unset, .unset, .unset, .unset, .unset, .unset, .unset, .unset, .unset, .unset, .unset, .unset, .unset, .unset, .unset] [(.int (18 : Int32)), (.int (p1 &&& (2147483647 : Int32))), (.int fr)]))
    refine Runs.by (fun _ hr => iremM X0 hx rfl (hb hby at_23) rfl (by decide) hr) ?_
    refine Runs.by (fun _ hr => XS.iadd X0.here hx rfl (hb hby at_24) rfl hr) ?_
    exact JT (fr + ((p1 &&& (2147483647 : Int32)) % (18 : Int32))) _ _ X0 e0 N0 
  · -- pc 8: not (p0 &&& (4 : Int32)) = (0 : Int32)
    refine Runs.by (fun _ hr => XS.ifNo X0.here hx rfl (hb hby at_8) rfl ((if0 _ _).trans (feq hc8).1) hr) ?_
    refine Runs.by (fun _ hr => XS.iloadN X0.here hx rfl (hb hby at_11) rfl  hr) ?_
    show Runs p e below _ (s₁.setTop (mkF m 12 #[.val (.int p0), .val (.int p1), .val (.int p2), .val (.int p3), .val (.int p4), .val (.int fr), .unset, .unset, .unset, .unset, .unset, .unset, .unset, .unset, .unset, .unset, .unset, .unset, .unset, .unset, .unset, .unset, .unset, .unset] [(.int p1)]))
    refine Runs.by (fun _ hr => XS.goto X0.here hx rfl (pc0 := 12) (pc' := 25) rfl (hb hby at_12) (by decide) (by decide) hr) ?_
    exact JT p1 _ _ X0 e0 N0 
set_option maxRecDepth 65536 in
set_option maxHeartbeats 40000000 in
theorem comes_1 {Post : Tables → Env → Array Value → State → Outcome → State → Prop} (hpost : ∀ tb e args s v u, (limb_1_1.after args s (.returned v) u = true ∧ limb_1_2.after args s (.returned v) u = true ∧ True) → ReturnedEndW s (.returned v) u (Jvm.fieldLocs frame_1_writes args s ++ Jvm.arrayLocs frame_1_arrays args s ++ Jvm.staticLocs frame_1_statics s) 16 2176 → Post tb e args s (.returned v) u) :
    ArmFor flags0 classFile x code maxLocals ret World_1 tables_1 room_1 Calls_1 rest_1 Pre_1 Post := by
  intro l hfl _ _ p e ha hc hk s m args below hf hA hF happ hP
  obtain ⟨hcalls, hrest, hpre⟩ := hP
  obtain ⟨-, -, -, hnamed, -, -, -, hat⟩ := (Spec.applies_iff hf).mp happ
  obtain ⟨hg, hn⟩ := and_e (Cond.before_iff.mp (show (Jvm.Cond.and given_1 narrow_1).before args s = true from hpre))
  obtain ⟨g1, g2⟩ := and_e hg
  obtain ⟨g3, g4⟩ := and_e g2
  obtain ⟨g5, g6⟩ := and_e g4
  obtain ⟨g7, g8⟩ := and_e g6
  obtain ⟨g9, g10⟩ := and_e g8
  obtain ⟨g11, g12⟩ := and_e hn
  obtain ⟨g13, g14⟩ := and_e g12
  obtain ⟨g15, g16⟩ := and_e g14
  obtain ⟨g17, g18⟩ := and_e g16
  obtain ⟨g19, g20⟩ := and_e g18
  obtain ⟨g21, g22⟩ := and_e g20
  obtain ⟨g23, g24⟩ := and_e g22
  obtain ⟨g25, g26⟩ := and_e g24
  obtain ⟨g27, g28⟩ := and_e g26
  obtain ⟨g29, g30⟩ := and_e g28
  obtain ⟨g31, g32⟩ := and_e g30
  obtain ⟨g33, g34⟩ := and_e g32
  obtain ⟨w0, w1, w2, w3, w4, rfl⟩ : ∃ w0 w1 w2 w3 w4 : Value, args = #[w0, w1, w2, w3, w4] := by
    have hs : args.size = 5 := by simpa [Cond.value, given_1] using g1
    obtain ⟨L⟩ := args
    match L, hs with
    | [w0, w1, w2, w3, w4], _ => exact ⟨w0, w1, w2, w3, w4, rfl⟩
  have hw := fun d (hd : d ∈ tables_1) => atoms_spec (ws := Jvm.Cond.code x code maxLocals ret :: tables_1) hat d (List.mem_cons_of_mem _ hd)
  have hfit : Fit s := fun {y c} hc i hi => by
    obtain ⟨ha, rfl⟩ := Array.getElem?_eq_some_iff.mp hc
    have q := List.all_eq_true.mp ((Array.all_eq_true_iff_forall_mem.mp hF) _ (Array.getElem_mem ha)) i (List.mem_range.mpr hi)
    simpa [Array.getElem?_eq_getElem hi] using q
  obtain ⟨hsets, hown0⟩ := atoms_of _ (rest_1_c_eq ▸ (show rest_1_c.before _ s = true from hrest))
  have hr0 := Cond.before_iff.mp hown0
  obtain ⟨i0, ei0⟩ := is_v g3
  obtain rfl : w0 = (.int i0) := Option.some.inj ei0
  obtain ⟨i1, ei1⟩ := is_v g5
  obtain rfl : w1 = (.int i1) := Option.some.inj ei1
  obtain ⟨i2, ei2⟩ := is_v g7
  obtain rfl : w2 = (.int i2) := Option.some.inj ei2
  obtain ⟨i3, ei3⟩ := is_v g9
  obtain rfl : w3 = (.int i3) := Option.some.inj ei3
  obtain ⟨i4, ei4⟩ := is_v g10
  obtain rfl : w4 = (.int i4) := Option.some.inj ei4
  obtain ⟨lo, evL⟩ := arr_v g11
  have SL : Sta s s.heap "com/example/word_odds/wordodds/filter/VerdictField" "LOWER_CASE_NAME" "[B" (.ref lo) := Sta.start evL (Or.inr ⟨hw _ (List.mem_of_getElem? (i := 44) rfl), hw _ (List.mem_of_getElem? (i := 51) rfl)⟩)
  obtain ⟨ko, VL⟩ := own_arv (vs := [(.int (120 : Int32)), (.int (45 : Int32)), (.int (119 : Int32)), (.int (111 : Int32)), (.int (114 : Int32)), (.int (100 : Int32)), (.int (45 : Int32)), (.int (111 : Int32)), (.int (100 : Int32)), (.int (100 : Int32)), (.int (115 : Int32))]) (dv := .int (0 : Int32)) hfit evL g11 g13 (by decide) rfl (fun cl hc => ⟨(elem_in (own_eq_int g15) evL rfl hc).2, (elem_in (own_eq_int g17) evL rfl hc).2, (elem_in (own_eq_int g19) evL rfl hc).2, (elem_in (own_eq_int g21) evL rfl hc).2, (elem_in (own_eq_int g23) evL rfl hc).2, (elem_in (own_eq_int g25) evL rfl hc).2, (elem_in (own_eq_int g27) evL rfl hc).2, (elem_in (own_eq_int g29) evL rfl hc).2, (elem_in (own_eq_int g31) evL rfl hc).2, (elem_in (own_eq_int g33) evL rfl hc).2, (elem_in (own_eq_int g34) evL rfl hc).2, trivial⟩)
  have n5 := not_v (Cond.before_iff.mp (hsets _ (List.mem_of_getElem? (i := 2) rfl)))
  obtain ⟨gC, eC⟩ := is_v (Cond.before_iff.mp (hsets _ (List.mem_of_getElem? (i := 1) rfl)))
  have SC : Sta s s.heap "java/lang/String" "COMPACT_STRINGS" "Z" (.int gC) := Sta.start eC (Or.inl (hsets _ (List.mem_of_getElem? (i := 0) rfl)))
  have cC : ¬ (gC = (0 : Int32)) := gotF (Cond.eq_ints eC (Term.int_eval (0))) n5
  obtain ⟨vG, eG, rG⟩ := isR_v (Cond.before_iff.mp (hsets _ (List.mem_of_getElem? (i := 8) rfl)))
  have SG : Sta s s.heap "jdk/internal/util/Preconditions" "SIOOBE_FORMATTER" "Ljava/util/function/BiFunction;" vG := Sta.start eG (Or.inl (hsets _ (List.mem_of_getElem? (i := 7) rfl)))
  have hEL : EW s _ consts_1 := (EW.cons (hw _ (List.mem_of_getElem? (i := 6) rfl)) (by decide) (EW.cons (hw _ (List.mem_of_getElem? (i := 38) rfl)) (by decide) EW.nil))
  have hch : CHv s consts_1 s.vm s.heap := CHv.start hEL (fun p hp => hcalls.1 p hp) (hsets _ (List.mem_of_getElem? (i := 2) rfl)) (hw _ (List.mem_of_getElem? (i := 1) rfl)) (hw _ (List.mem_of_getElem? (i := 8) rfl))
  obtain ⟨n, o, h1, h2, h3, _, L, rfl, ⟨rfl, N⟩, -, hq⟩ := rm0 l s _ hw tables_1 i0 i1 i2 i3 i4 gC vG lo ko s.heap s.heap.size (Nat.le_refl _) SC cC rG SG SL VL hEL (Old.start s) p e ha hc hk s m _ below hf ((Spec.applies_iff_loose hf).mp happ).1 ⟨rfl, State.Warmed39.refl s, rfl, hch⟩ trivial
  refine ⟨n, _, h1, h2, h3, hpost _ _ _ _ _ _ ⟨Cond.after_iff.mpr rfl, Cond.after_iff.mpr (eq_i res_at (Term.int_eval (1)) rfl), trivial⟩ ⟨hq.1, hq.2.1, hq.2.2.1, (hq.2.2.2.sift fun y hy => Or.inr (N y hy)).mono (by decide) (by decide)⟩⟩
theorem main_1_1 : Claimed_1_1 := comes_1 fun _ _ _ _ _ _ h hF => ⟨h.1, hF⟩
theorem main_1_2 : Claimed_1_2 := comes_1 fun _ _ _ _ _ _ h hF => ⟨h.2.1, hF⟩
end Jvm.Pilot.@@N@@
namespace Jvm.Pilot.@@N@@
open Jvm Jvm.ClassFile Sem Op Lib Jvm.Free Jvm.Stand Jvm.Pilot.@@N@@.Jvm.D
/-! MADE BY PROGRAM (witnessworld.py) out of the Statement's table words and the real class files: 16 classes; the members and pool entries that the words name. The judged class is class 1, her method 1. -/
namespace start1
open Jvm.ClassFile
def u (s : String) : CpInfo := .utf8 (stringToUtf16 s)
/-- a pool by its gaps: so many unusable entries, then the entry; so many at the end -/
def gap : Nat → List CpInfo → List CpInfo
  | 0, r => r
  | n + 1, r => .unusable :: gap n r
def poolList (es : List (Nat × CpInfo)) (last : Nat) : List CpInfo := es.foldr (fun e r => gap e.1 (e.2 :: r)) (gap last [])
def pool (es : List (Nat × CpInfo)) (last : Nat) : Array CpInfo := ⟨poolList es last⟩
def fileOf (pool : Array CpInfo) (this : Nat) (attrs : Array Attribute := #[]) (ms : Array MethodInfo := #[]) (fl : Nat := 33) (sup : Nat := 0) (ifs : Array Nat := #[]) (fds : Array FieldInfo := #[]) : ClassFile where
  minorVersion := 0
  majorVersion := 65
  constantPool := pool
  accessFlags := fl
  thisClass := this
  superClass := sup
  interfaces := ifs
  fields := fds
  methods := ms
  attributes := attrs
def plain (name : String) (sup : Option ClassId) : Class where
  name := name
  kind := .ordinary
  loader := none
  accessFlags := 33
  super := sup
  interfaces := #[]
  cf := none
  fields := #[]
  methods := #[]
  instanceTypes := #[]
  staticTypes := #[]
  resolved := #[]
  callSites := []
  init := .initialized
  statics := none
  mirror := none

def pool0 : Array CpInfo := pool [(5, u "<init>"), (0, u "()V"), (1, .class_ 10), (1, u "java/lang/Object")] 113

def k0m0 : Method := { name := "<init>", desc := "()V", sig := { parameters := [], returnType := none }, accessFlags := 1, code := none }
/-- java/lang/Object -/
def k0 : Class := { plain "java/lang/Object" none with
  accessFlags := 33
  interfaces := #[]
  cf := some (fileOf pool0 8 #[] #[{ accessFlags := 1, nameIndex := 5, descriptorIndex := 6, attributes := #[] }] 33 0 #[] #[])
  fields := #[]
  methods := #[k0m0]
  instanceTypes := #[]
  staticTypes := #[]
  resolved := Array.replicate 124 none
  statics := none }

def pool1 : Array CpInfo := pool [(2, .class_ 4), (1, u "java/lang/Object"), (0, u "<init>"), (0, u "()V"), (0, .integer 2147483647), (0, .methodref 9 10), (0, .class_ 11), (0, .nameAndType 12 13), (0, u "com/example/word_odds/wordodds/filter/VerdictFieldBeginsPinLaw"), (0, u "nameByte"), (0, u "(II)B"), (0, .methodref 9 15), (0, .nameAndType 16 17), (0, u "suffixByte"), (0, u "(IB)B"), (0, .methodref 19 20), (0, .class_ 21), (0, .nameAndType 22 23), (0, u "com/example/word_odds/wordodds/filter/VerdictField"), (0, u "begins"), (0, u "([BII)Z"), (0, .string 25), (0, u "x-word-odds"), (0, .methodref 27 28), (0, .class_ 29), (0, .nameAndType 30 31), (0, u "java/lang/String"), (0, u "charAt"), (0, u "(I)C"), (0, .string 33), (0, u "X-WORD-ODDS"), (0, .long 998), (1, .methodref 37 38), (0, .class_ 39), (0, .nameAndType 40 41), (0, u "java/lang/Math"), (0, u "min"), (0, u "(JJ)J"), (0, .long 11), (1, .long 12), (1, .methodref 9 47), (0, .nameAndType 48 49), (0, u "ws"), (0, u "(B)Z"), (0, .long 13), (1, .long 14), (3, u "law"), (0, u "(IIIII)Z")] 5

def k1m0 : Method := { name := "<init>", desc := "()V", sig := { parameters := [], returnType := none }, accessFlags := 2, code := none }
def k1c1 : Code := { maxStack := 4, maxLocals := 24, code := code, exceptionTable := #[], attributes := #[] }
def k1m1 : Method := { name := "law", desc := "(IIIII)Z", sig := { parameters := [.int, .int, .int, .int, .int], returnType := some .boolean }, accessFlags := 9, code := some k1c1 }
def k1c2 : Code := { maxStack := 2, maxLocals := 3, code := method_3_code, exceptionTable := #[], attributes := #[] }
def k1m2 : Method := { name := "nameByte", desc := "(II)B", sig := { parameters := [.int, .int], returnType := some .byte }, accessFlags := 10, code := some k1c2 }
def k1c3 : Code := { maxStack := 2, maxLocals := 3, code := method_4_code, exceptionTable := #[], attributes := #[] }
def k1m3 : Method := { name := "suffixByte", desc := "(IB)B", sig := { parameters := [.int, .byte], returnType := some .byte }, accessFlags := 10, code := some k1c3 }
def k1c4 : Code := { maxStack := 2, maxLocals := 1, code := method_5_code, exceptionTable := #[], attributes := #[] }
def k1m4 : Method := { name := "ws", desc := "(B)Z", sig := { parameters := [.byte], returnType := some .boolean }, accessFlags := 10, code := some k1c4 }
/-- com/example/word_odds/wordodds/filter/VerdictFieldBeginsPinLaw -/
def k1 : Class := { plain "com/example/word_odds/wordodds/filter/VerdictFieldBeginsPinLaw" (some 0) with
  accessFlags := 49
  interfaces := #[]
  cf := some (fileOf pool1 9 #[] #[{ accessFlags := 2, nameIndex := 5, descriptorIndex := 6, attributes := #[] }, { accessFlags := 9, nameIndex := 56, descriptorIndex := 57, attributes := #[] }, { accessFlags := 10, nameIndex := 12, descriptorIndex := 13, attributes := #[] }, { accessFlags := 10, nameIndex := 16, descriptorIndex := 17, attributes := #[] }, { accessFlags := 10, nameIndex := 48, descriptorIndex := 49, attributes := #[] }] 49 2 #[] #[])
  fields := #[]
  methods := #[k1m0, k1m1, k1m2, k1m3, k1m4]
  instanceTypes := #[]
  staticTypes := #[]
  resolved := Array.replicate 63 none
  statics := none }

def pool2 : Array CpInfo := pool [(1, .class_ 2), (0, u "java/io/Serializable"), (0, .class_ 4), (0, u "java/lang/Object")] 2

/-- java/io/Serializable -/
def k2 : Class := { plain "java/io/Serializable" (some 0) with
  accessFlags := 1537
  interfaces := #[]
  cf := some (fileOf pool2 1 #[] #[] 1537 3 #[] #[])
  fields := #[]
  methods := #[]
  instanceTypes := #[]
  staticTypes := #[]
  resolved := Array.replicate 7 none
  statics := none }

def pool3 : Array CpInfo := pool [(1, .class_ 2), (0, u "java/lang/Comparable"), (0, .class_ 4), (0, u "java/lang/Object")] 7

/-- java/lang/Comparable -/
def k3 : Class := { plain "java/lang/Comparable" (some 0) with
  accessFlags := 1537
  interfaces := #[]
  cf := some (fileOf pool3 1 #[] #[] 1537 3 #[] #[])
  fields := #[]
  methods := #[]
  instanceTypes := #[]
  staticTypes := #[]
  resolved := Array.replicate 12 none
  statics := none }

def pool4 : Array CpInfo := pool [(2, .class_ 4), (1, u "java/lang/CharSequence"), (42, .class_ 48), (0, u "java/lang/CharSequence$1CodePointIterator"), (10, .class_ 60), (0, u "java/lang/CharSequence$1CharIterator"), (5, .class_ 67), (0, u "java/lang/Object")] 63

/-- java/lang/CharSequence -/
def k4 : Class := { plain "java/lang/CharSequence" (some 0) with
  accessFlags := 1537
  interfaces := #[]
  cf := some (fileOf pool4 2 #[.nestMembers #[47, 59]] #[] 1537 66 #[] #[])
  fields := #[]
  methods := #[]
  instanceTypes := #[]
  staticTypes := #[]
  resolved := Array.replicate 131 none
  statics := none }

def pool5 : Array CpInfo := pool [(1, .class_ 2), (0, u "java/lang/constant/Constable"), (0, .class_ 4), (0, u "java/lang/Object")] 6

/-- java/lang/constant/Constable -/
def k5 : Class := { plain "java/lang/constant/Constable" (some 0) with
  accessFlags := 1537
  interfaces := #[]
  cf := some (fileOf pool5 1 #[] #[] 1537 3 #[] #[])
  fields := #[]
  methods := #[]
  instanceTypes := #[]
  staticTypes := #[]
  resolved := Array.replicate 11 none
  statics := none }

def pool6 : Array CpInfo := pool [(1, .class_ 2), (0, u "java/lang/constant/ConstantDesc"), (0, .class_ 4), (0, u "java/lang/Object")] 32

/-- java/lang/constant/ConstantDesc -/
def k6 : Class := { plain "java/lang/constant/ConstantDesc" (some 0) with
  accessFlags := 1537
  interfaces := #[]
  cf := some (fileOf pool6 1 #[] #[] 1537 3 #[] #[])
  fields := #[]
  methods := #[]
  instanceTypes := #[]
  staticTypes := #[]
  resolved := Array.replicate 37 none
  statics := none }

def pool7 : Array CpInfo := pool [(2, .class_ 4), (1, u "java/lang/Object"), (0, u "<init>"), (0, u "()V"), (2, .fieldref 10 11), (0, .class_ 12), (0, .nameAndType 13 14), (0, u "java/lang/String"), (0, u "value"), (0, u "[B"), (0, .fieldref 10 16), (0, .nameAndType 17 18), (0, u "coder"), (0, u "B"), (2, u "hash"), (0, u "I"), (2, u "hashIsZero"), (0, u "Z"), (11, .fieldref 10 39), (0, .nameAndType 40 26), (0, u "COMPACT_STRINGS"), (66, .class_ 109), (1, u "java/lang/StringLatin1"), (32, u "()Z"), (220, u "([BI)C"), (27, u "(II)V"), (35, u "(I)C"), (64, .methodref 10 493), (0, .nameAndType 494 142), (0, u "isLatin1"), (0, .methodref 107 496), (0, .nameAndType 497 363), (0, u "charAt"), (3, u "checkIndex"), (73, .class_ 576), (0, u "java/lang/CharSequence"), (22, u "CASE_INSENSITIVE_ORDER"), (0, u "Ljava/util/Comparator;"), (452, .fieldref 1054 1055), (0, .class_ 1056), (0, .nameAndType 1057 1058), (0, u "jdk/internal/util/Preconditions"), (0, u "SIOOBE_FORMATTER"), (0, u "Ljava/util/function/BiFunction;"), (0, .methodref 1054 1060), (0, .nameAndType 501 1061), (0, u "(IILjava/util/function/BiFunction;)I"), (39, u "serialPersistentFields"), (0, u "[Ljava/io/ObjectStreamField;"), (0, .class_ 1104), (0, u "java/lang/String$CaseInsensitiveComparator"), (1, .class_ 1107), (0, u "java/io/Serializable"), (0, .class_ 1109), (0, u "java/lang/Comparable"), (0, .class_ 1111), (0, u "java/lang/constant/Constable"), (0, .class_ 1113), (0, u "java/lang/constant/ConstantDesc"), (2, u "serialVersionUID"), (0, u "J"), (3, u "REPL"), (0, u "C"), (2, u "LATIN1"), (1, u "UTF16")] 323

def k7m0 : Method := { name := "<init>", desc := "()V", sig := { parameters := [], returnType := none }, accessFlags := 1, code := none }
def k7c1 : Code := { maxStack := 2, maxLocals := 2, code := jdk_42_method_56_code, exceptionTable := #[], attributes := #[] }
def k7m1 : Method := { name := "charAt", desc := "(I)C", sig := { parameters := [.int], returnType := some .char }, accessFlags := 1, code := some k7c1 }
def k7c2 : Code := { maxStack := 1, maxLocals := 1, code := jdk_42_method_154_code, exceptionTable := #[], attributes := #[] }
def k7m2 : Method := { name := "isLatin1", desc := "()Z", sig := { parameters := [], returnType := some .boolean }, accessFlags := 0, code := some k7c2 }
def k7c3 : Code := { maxStack := 3, maxLocals := 2, code := jdk_42_method_155_code, exceptionTable := #[], attributes := #[] }
def k7m3 : Method := { name := "checkIndex", desc := "(II)V", sig := { parameters := [.int, .int], returnType := none }, accessFlags := 8, code := some k7c3 }
/-- java/lang/String -/
def k7 : Class := { plain "java/lang/String" (some 0) with
  accessFlags := 49
  interfaces := #[2, 3, 4, 5, 6]
  cf := some (fileOf pool7 10 #[.nestMembers #[1103]] #[{ accessFlags := 1, nameIndex := 5, descriptorIndex := 6, attributes := #[] }, { accessFlags := 1, nameIndex := 497, descriptorIndex := 427, attributes := #[] }, { accessFlags := 0, nameIndex := 494, descriptorIndex := 142, attributes := #[] }, { accessFlags := 8, nameIndex := 501, descriptorIndex := 391, attributes := #[] }] 49 2 #[1106, 1108, 575, 1110, 1112] #[{ accessFlags := 18, nameIndex := 13, descriptorIndex := 14, attributes := #[] }, { accessFlags := 18, nameIndex := 17, descriptorIndex := 18, attributes := #[] }, { accessFlags := 2, nameIndex := 21, descriptorIndex := 22, attributes := #[] }, { accessFlags := 2, nameIndex := 25, descriptorIndex := 26, attributes := #[] }, { accessFlags := 26, nameIndex := 1116, descriptorIndex := 1117, attributes := #[] }, { accessFlags := 24, nameIndex := 40, descriptorIndex := 26, attributes := #[] }, { accessFlags := 26, nameIndex := 1101, descriptorIndex := 1102, attributes := #[] }, { accessFlags := 26, nameIndex := 1121, descriptorIndex := 1122, attributes := #[] }, { accessFlags := 25, nameIndex := 599, descriptorIndex := 600, attributes := #[] }, { accessFlags := 24, nameIndex := 1125, descriptorIndex := 18, attributes := #[] }, { accessFlags := 24, nameIndex := 1127, descriptorIndex := 18, attributes := #[] }])
  fields := #[{ name := "value", type := (.array .byte), accessFlags := 18, slot := 0, constantValue := 0 }, { name := "coder", type := .byte, accessFlags := 18, slot := 1, constantValue := 0 }, { name := "hash", type := .int, accessFlags := 2, slot := 2, constantValue := 0 }, { name := "hashIsZero", type := .boolean, accessFlags := 2, slot := 3, constantValue := 0 }, { name := "serialVersionUID", type := .long, accessFlags := 26, slot := 0, constantValue := 0 }, { name := "COMPACT_STRINGS", type := .boolean, accessFlags := 24, slot := 1, constantValue := 0 }, { name := "serialPersistentFields", type := (.array (.object "java/io/ObjectStreamField")), accessFlags := 26, slot := 2, constantValue := 0 }, { name := "REPL", type := .char, accessFlags := 26, slot := 3, constantValue := 0 }, { name := "CASE_INSENSITIVE_ORDER", type := (.object "java/util/Comparator"), accessFlags := 25, slot := 4, constantValue := 0 }, { name := "LATIN1", type := .byte, accessFlags := 24, slot := 5, constantValue := 0 }, { name := "UTF16", type := .byte, accessFlags := 24, slot := 6, constantValue := 0 }]
  methods := #[k7m0, k7m1, k7m2, k7m3]
  instanceTypes := #[(.array .byte), .byte, .int, .boolean]
  staticTypes := #[.long, .boolean, (.array (.object "java/io/ObjectStreamField")), .char, (.object "java/util/Comparator"), .byte, .byte]
  resolved := Array.replicate 1451 none
  statics := some 0 }

def pool8 : Array CpInfo := pool [(1, .class_ 2), (0, u "java/lang/String"), (1, .class_ 6), (1, u "java/lang/Object"), (0, u "<init>"), (0, u "()V"), (0, .methodref 1 10), (0, .nameAndType 11 12), (0, u "checkIndex"), (0, u "(II)V"), (1, .class_ 16), (1, u "java/lang/StringLatin1"), (36, u "([BI)C"), (67, u "$assertionsDisabled"), (0, u "Z"), (98, .class_ 223), (1, u "java/lang/StringLatin1$LinesSpliterator"), (28, u "charAt"), (137, .class_ 391), (0, u "java/lang/StringLatin1$CharsSpliterator")] 3

def k8m0 : Method := { name := "<init>", desc := "()V", sig := { parameters := [], returnType := none }, accessFlags := 0, code := none }
def k8c1 : Code := { maxStack := 2, maxLocals := 2, code := jdk_43_method_2_code, exceptionTable := #[], attributes := #[] }
def k8m1 : Method := { name := "charAt", desc := "([BI)C", sig := { parameters := [(.array .byte), .int], returnType := some .char }, accessFlags := 9, code := some k8c1 }
/-- java/lang/StringLatin1 -/
def k8 : Class := { plain "java/lang/StringLatin1" (some 0) with
  accessFlags := 48
  interfaces := #[]
  cf := some (fileOf pool8 14 #[.nestMembers #[390, 221]] #[{ accessFlags := 0, nameIndex := 7, descriptorIndex := 8, attributes := #[] }, { accessFlags := 9, nameIndex := 252, descriptorIndex := 53, attributes := #[] }] 48 4 #[] #[{ accessFlags := 4120, nameIndex := 121, descriptorIndex := 122, attributes := #[] }])
  fields := #[{ name := "$assertionsDisabled", type := .boolean, accessFlags := 4120, slot := 0, constantValue := 0 }]
  methods := #[k8m0, k8m1]
  instanceTypes := #[]
  staticTypes := #[.boolean]
  resolved := Array.replicate 395 none
  statics := none }

def pool9 : Array CpInfo := pool [(2, .class_ 4), (1, u "java/lang/Object"), (0, u "<init>"), (0, u "()V"), (17, .class_ 26), (1, u "jdk/internal/util/Preconditions"), (6, u "checkIndex"), (21, .class_ 56), (0, u "jdk/internal/util/Preconditions$4"), (57, .class_ 115), (0, u "jdk/internal/util/Preconditions$1"), (7, u "SIOOBE_FORMATTER"), (0, u "Ljava/util/function/BiFunction;"), (0, .class_ 126), (0, u "jdk/internal/util/Preconditions$2"), (3, u "AIOOBE_FORMATTER"), (0, .class_ 132), (0, u "jdk/internal/util/Preconditions$3"), (3, u "IOOBE_FORMATTER"), (41, u "(IILjava/util/function/BiFunction;)I")] 15

def k9m0 : Method := { name := "<init>", desc := "()V", sig := { parameters := [], returnType := none }, accessFlags := 1, code := none }
def k9c1 : Code := { maxStack := 3, maxLocals := 3, code := jdk_41_method_11_code, exceptionTable := #[], attributes := #[] }
def k9m1 : Method := { name := "checkIndex", desc := "(IILjava/util/function/BiFunction;)I", sig := { parameters := [.int, .int, (.object "java/util/function/BiFunction")], returnType := some .int }, accessFlags := 9, code := some k9c1 }
/-- jdk/internal/util/Preconditions -/
def k9 : Class := { plain "jdk/internal/util/Preconditions" (some 0) with
  accessFlags := 33
  interfaces := #[]
  cf := some (fileOf pool9 24 #[.nestMembers #[55, 131, 125, 114]] #[{ accessFlags := 1, nameIndex := 5, descriptorIndex := 6, attributes := #[] }, { accessFlags := 9, nameIndex := 33, descriptorIndex := 178, attributes := #[] }] 33 2 #[] #[{ accessFlags := 25, nameIndex := 123, descriptorIndex := 124, attributes := #[] }, { accessFlags := 25, nameIndex := 130, descriptorIndex := 124, attributes := #[] }, { accessFlags := 25, nameIndex := 136, descriptorIndex := 124, attributes := #[] }])
  fields := #[{ name := "SIOOBE_FORMATTER", type := (.object "java/util/function/BiFunction"), accessFlags := 25, slot := 0, constantValue := 0 }, { name := "AIOOBE_FORMATTER", type := (.object "java/util/function/BiFunction"), accessFlags := 25, slot := 1, constantValue := 0 }, { name := "IOOBE_FORMATTER", type := (.object "java/util/function/BiFunction"), accessFlags := 25, slot := 2, constantValue := 0 }]
  methods := #[k9m0, k9m1]
  instanceTypes := #[]
  staticTypes := #[(.object "java/util/function/BiFunction"), (.object "java/util/function/BiFunction"), (.object "java/util/function/BiFunction")]
  resolved := Array.replicate 194 none
  statics := some 1 }

def pool10 : Array CpInfo := pool [(2, .class_ 4), (1, u "java/lang/Object"), (0, u "<init>"), (0, u "()V"), (0, .class_ 8), (0, u "com/example/word_odds/wordodds/filter/VerdictField"), (0, .methodref 10 11), (0, .class_ 12), (0, .nameAndType 13 14), (0, u "java/lang/Math"), (0, u "min"), (0, u "(II)I"), (0, .fieldref 7 16), (0, .nameAndType 17 18), (0, u "LOWER_CASE_NAME"), (0, u "[B"), (0, .methodref 7 20), (0, .nameAndType 21 22), (0, u "lowerCase"), (0, u "(B)B"), (15, .class_ 39), (0, u "com/example/word_odds/wordodds/filter/VerdictField$Labelled"), (29, u "NAME"), (0, u "Ljava/lang/String;"), (1, u "LOOKAHEAD"), (0, u "I"), (1, u "BUFFER_SIZE"), (3, u "begins"), (0, u "([BII)Z"), (12, .class_ 94), (0, u "com/example/word_odds/wordodds/filter/VerdictField$State")] 17

def k10m0 : Method := { name := "<init>", desc := "()V", sig := { parameters := [], returnType := none }, accessFlags := 2, code := none }
def k10c1 : Code := { maxStack := 3, maxLocals := 5, code := prog_3_method_2_code, exceptionTable := #[], attributes := #[] }
def k10m1 : Method := { name := "begins", desc := "([BII)Z", sig := { parameters := [(.array .byte), .int, .int], returnType := some .boolean }, accessFlags := 9, code := some k10c1 }
def k10c2 : Code := { maxStack := 2, maxLocals := 1, code := prog_3_method_3_code, exceptionTable := #[], attributes := #[] }
def k10m2 : Method := { name := "lowerCase", desc := "(B)B", sig := { parameters := [.byte], returnType := some .byte }, accessFlags := 10, code := some k10c2 }
/-- com/example/word_odds/wordodds/filter/VerdictField -/
def k10 : Class := { plain "com/example/word_odds/wordodds/filter/VerdictField" (some 0) with
  accessFlags := 49
  interfaces := #[]
  cf := some (fileOf pool10 7 #[.nestMembers #[38, 93]] #[{ accessFlags := 2, nameIndex := 5, descriptorIndex := 6, attributes := #[] }, { accessFlags := 9, nameIndex := 79, descriptorIndex := 80, attributes := #[] }, { accessFlags := 10, nameIndex := 21, descriptorIndex := 22, attributes := #[] }] 49 2 #[] #[{ accessFlags := 25, nameIndex := 69, descriptorIndex := 70, attributes := #[] }, { accessFlags := 25, nameIndex := 72, descriptorIndex := 73, attributes := #[] }, { accessFlags := 26, nameIndex := 17, descriptorIndex := 18, attributes := #[] }, { accessFlags := 24, nameIndex := 75, descriptorIndex := 73, attributes := #[] }])
  fields := #[{ name := "NAME", type := (.object "java/lang/String"), accessFlags := 25, slot := 0, constantValue := 0 }, { name := "LOOKAHEAD", type := .int, accessFlags := 25, slot := 1, constantValue := 0 }, { name := "LOWER_CASE_NAME", type := (.array .byte), accessFlags := 26, slot := 2, constantValue := 0 }, { name := "BUFFER_SIZE", type := .int, accessFlags := 24, slot := 3, constantValue := 0 }]
  methods := #[k10m0, k10m1, k10m2]
  instanceTypes := #[]
  staticTypes := #[(.object "java/lang/String"), .int, (.array .byte), .int]
  resolved := Array.replicate 112 none
  statics := some 2 }

def pool11 : Array CpInfo := pool [(1, .class_ 2), (0, u "java/lang/Math"), (1, .class_ 6), (1, u "java/lang/Object"), (0, u "<init>"), (0, u "()V"), (89, .class_ 100), (1, u "java/lang/Math$RandomNumberGeneratorHolder"), (20, u "(JJ)J"), (50, u "negativeZeroFloatBits"), (0, u "J"), (2, u "negativeZeroDoubleBits"), (24, u "min"), (43, u "$assertionsDisabled"), (0, u "Z"), (88, u "(II)I"), (2, u "twoToTheDoubleScaleDown"), (0, u "D"), (4, u "twoToTheDoubleScaleUp"), (9, u "E"), (3, u "PI"), (2, u "TAU"), (2, u "DEGREES_TO_RADIANS"), (0, u "RADIANS_TO_DEGREES")] 94

def k11m0 : Method := { name := "<init>", desc := "()V", sig := { parameters := [], returnType := none }, accessFlags := 2, code := none }
def k11c1 : Code := { maxStack := 2, maxLocals := 2, code := jdk_29_method_69_code, exceptionTable := #[], attributes := #[] }
def k11m1 : Method := { name := "min", desc := "(II)I", sig := { parameters := [.int, .int], returnType := some .int }, accessFlags := 9, code := some k11c1 }
def k11c2 : Code := { maxStack := 4, maxLocals := 4, code := jdk_29_method_70_code, exceptionTable := #[], attributes := #[] }
def k11m2 : Method := { name := "min", desc := "(JJ)J", sig := { parameters := [.long, .long], returnType := some .long }, accessFlags := 9, code := some k11c2 }
/-- java/lang/Math -/
def k11 : Class := { plain "java/lang/Math" (some 0) with
  accessFlags := 49
  interfaces := #[]
  cf := some (fileOf pool11 1 #[.nestMembers #[98]] #[{ accessFlags := 2, nameIndex := 7, descriptorIndex := 8, attributes := #[] }, { accessFlags := 9, nameIndex := 201, descriptorIndex := 335, attributes := #[] }, { accessFlags := 9, nameIndex := 201, descriptorIndex := 121, attributes := #[] }] 49 4 #[] #[{ accessFlags := 25, nameIndex := 354, descriptorIndex := 339, attributes := #[] }, { accessFlags := 25, nameIndex := 358, descriptorIndex := 339, attributes := #[] }, { accessFlags := 25, nameIndex := 361, descriptorIndex := 339, attributes := #[] }, { accessFlags := 26, nameIndex := 364, descriptorIndex := 339, attributes := #[] }, { accessFlags := 26, nameIndex := 365, descriptorIndex := 339, attributes := #[] }, { accessFlags := 26, nameIndex := 172, descriptorIndex := 173, attributes := #[] }, { accessFlags := 26, nameIndex := 176, descriptorIndex := 173, attributes := #[] }, { accessFlags := 8, nameIndex := 344, descriptorIndex := 339, attributes := #[] }, { accessFlags := 8, nameIndex := 338, descriptorIndex := 339, attributes := #[] }, { accessFlags := 4120, nameIndex := 245, descriptorIndex := 246, attributes := #[] }])
  fields := #[{ name := "E", type := .double, accessFlags := 25, slot := 0, constantValue := 0 }, { name := "PI", type := .double, accessFlags := 25, slot := 1, constantValue := 0 }, { name := "TAU", type := .double, accessFlags := 25, slot := 2, constantValue := 0 }, { name := "DEGREES_TO_RADIANS", type := .double, accessFlags := 26, slot := 3, constantValue := 0 }, { name := "RADIANS_TO_DEGREES", type := .double, accessFlags := 26, slot := 4, constantValue := 0 }, { name := "negativeZeroFloatBits", type := .long, accessFlags := 26, slot := 5, constantValue := 0 }, { name := "negativeZeroDoubleBits", type := .long, accessFlags := 26, slot := 6, constantValue := 0 }, { name := "twoToTheDoubleScaleUp", type := .double, accessFlags := 8, slot := 7, constantValue := 0 }, { name := "twoToTheDoubleScaleDown", type := .double, accessFlags := 8, slot := 8, constantValue := 0 }, { name := "$assertionsDisabled", type := .boolean, accessFlags := 4120, slot := 9, constantValue := 0 }]
  methods := #[k11m0, k11m1, k11m2]
  instanceTypes := #[]
  staticTypes := #[.double, .double, .double, .double, .double, .long, .long, .double, .double, .boolean]
  resolved := Array.replicate 460 none
  statics := none }

def pool12 : Array CpInfo := pool [(9, u "<init>"), (6, .class_ 18), (1, u "java/lang/Object"), (0, u "()V"), (1, .class_ 23), (1, u "jdk/internal/util/ArraysSupport"), (0, u "LOG2_ARRAY_LONG_INDEX_SCALE"), (0, u "I"), (2, u "U"), (0, u "Ljdk/internal/misc/Unsafe;"), (8, u "BIG_ENDIAN"), (0, u "Z"), (8, u "LOG2_BYTE_BIT_SIZE"), (4, u "LOG2_ARRAY_INT_INDEX_SCALE"), (54, u "JLA"), (0, u "Ljdk/internal/access/JavaLangAccess;"), (11, u "LOG2_ARRAY_BOOLEAN_INDEX_SCALE"), (9, u "LOG2_ARRAY_BYTE_INDEX_SCALE"), (5, u "LOG2_ARRAY_CHAR_INDEX_SCALE"), (5, u "LOG2_ARRAY_SHORT_INDEX_SCALE"), (18, u "LOG2_ARRAY_FLOAT_INDEX_SCALE"), (24, u "LOG2_ARRAY_DOUBLE_INDEX_SCALE"), (89, u "T_BOOLEAN"), (2, u "T_CHAR"), (1, u "T_FLOAT"), (1, u "T_DOUBLE"), (1, u "T_BYTE"), (1, u "T_SHORT"), (1, u "T_INT"), (1, u "T_LONG"), (1, u "SOFT_MAX_ARRAY_LENGTH")] 83

def k12m0 : Method := { name := "<init>", desc := "()V", sig := { parameters := [], returnType := none }, accessFlags := 2, code := none }
/-- jdk/internal/util/ArraysSupport -/
def k12 : Class := { plain "jdk/internal/util/ArraysSupport" (some 0) with
  accessFlags := 33
  interfaces := #[]
  cf := some (fileOf pool12 21 #[] #[{ accessFlags := 2, nameIndex := 9, descriptorIndex := 19, attributes := #[] }] 33 16 #[] #[{ accessFlags := 24, nameIndex := 28, descriptorIndex := 29, attributes := #[] }, { accessFlags := 26, nameIndex := 38, descriptorIndex := 39, attributes := #[] }, { accessFlags := 25, nameIndex := 121, descriptorIndex := 25, attributes := #[] }, { accessFlags := 25, nameIndex := 131, descriptorIndex := 25, attributes := #[] }, { accessFlags := 25, nameIndex := 137, descriptorIndex := 25, attributes := #[] }, { accessFlags := 25, nameIndex := 143, descriptorIndex := 25, attributes := #[] }, { accessFlags := 25, nameIndex := 53, descriptorIndex := 25, attributes := #[] }, { accessFlags := 25, nameIndex := 24, descriptorIndex := 25, attributes := #[] }, { accessFlags := 25, nameIndex := 162, descriptorIndex := 25, attributes := #[] }, { accessFlags := 25, nameIndex := 187, descriptorIndex := 25, attributes := #[] }, { accessFlags := 26, nameIndex := 48, descriptorIndex := 25, attributes := #[] }, { accessFlags := 25, nameIndex := 277, descriptorIndex := 25, attributes := #[] }, { accessFlags := 25, nameIndex := 280, descriptorIndex := 25, attributes := #[] }, { accessFlags := 25, nameIndex := 282, descriptorIndex := 25, attributes := #[] }, { accessFlags := 25, nameIndex := 284, descriptorIndex := 25, attributes := #[] }, { accessFlags := 25, nameIndex := 286, descriptorIndex := 25, attributes := #[] }, { accessFlags := 25, nameIndex := 288, descriptorIndex := 25, attributes := #[] }, { accessFlags := 25, nameIndex := 290, descriptorIndex := 25, attributes := #[] }, { accessFlags := 25, nameIndex := 292, descriptorIndex := 25, attributes := #[] }, { accessFlags := 26, nameIndex := 108, descriptorIndex := 109, attributes := #[] }, { accessFlags := 25, nameIndex := 294, descriptorIndex := 25, attributes := #[] }])
  fields := #[{ name := "U", type := (.object "jdk/internal/misc/Unsafe"), accessFlags := 24, slot := 0, constantValue := 0 }, { name := "BIG_ENDIAN", type := .boolean, accessFlags := 26, slot := 1, constantValue := 0 }, { name := "LOG2_ARRAY_BOOLEAN_INDEX_SCALE", type := .int, accessFlags := 25, slot := 2, constantValue := 0 }, { name := "LOG2_ARRAY_BYTE_INDEX_SCALE", type := .int, accessFlags := 25, slot := 3, constantValue := 0 }, { name := "LOG2_ARRAY_CHAR_INDEX_SCALE", type := .int, accessFlags := 25, slot := 4, constantValue := 0 }, { name := "LOG2_ARRAY_SHORT_INDEX_SCALE", type := .int, accessFlags := 25, slot := 5, constantValue := 0 }, { name := "LOG2_ARRAY_INT_INDEX_SCALE", type := .int, accessFlags := 25, slot := 6, constantValue := 0 }, { name := "LOG2_ARRAY_LONG_INDEX_SCALE", type := .int, accessFlags := 25, slot := 7, constantValue := 0 }, { name := "LOG2_ARRAY_FLOAT_INDEX_SCALE", type := .int, accessFlags := 25, slot := 8, constantValue := 0 }, { name := "LOG2_ARRAY_DOUBLE_INDEX_SCALE", type := .int, accessFlags := 25, slot := 9, constantValue := 0 }, { name := "LOG2_BYTE_BIT_SIZE", type := .int, accessFlags := 26, slot := 10, constantValue := 0 }, { name := "T_BOOLEAN", type := .int, accessFlags := 25, slot := 11, constantValue := 0 }, { name := "T_CHAR", type := .int, accessFlags := 25, slot := 12, constantValue := 0 }, { name := "T_FLOAT", type := .int, accessFlags := 25, slot := 13, constantValue := 0 }, { name := "T_DOUBLE", type := .int, accessFlags := 25, slot := 14, constantValue := 0 }, { name := "T_BYTE", type := .int, accessFlags := 25, slot := 15, constantValue := 0 }, { name := "T_SHORT", type := .int, accessFlags := 25, slot := 16, constantValue := 0 }, { name := "T_INT", type := .int, accessFlags := 25, slot := 17, constantValue := 0 }, { name := "T_LONG", type := .int, accessFlags := 25, slot := 18, constantValue := 0 }, { name := "JLA", type := (.object "jdk/internal/access/JavaLangAccess"), accessFlags := 26, slot := 19, constantValue := 0 }, { name := "SOFT_MAX_ARRAY_LENGTH", type := .int, accessFlags := 25, slot := 20, constantValue := 0 }]
  methods := #[k12m0]
  instanceTypes := #[]
  staticTypes := #[(.object "jdk/internal/misc/Unsafe"), .boolean, .int, .int, .int, .int, .int, .int, .int, .int, .int, .int, .int, .int, .int, .int, .int, .int, .int, (.object "jdk/internal/access/JavaLangAccess"), .int]
  resolved := Array.replicate 378 none
  statics := none }

def pool13 : Array CpInfo := pool [(1, u "java/lang/Cloneable"), (0, .class_ 1), (0, u "java/lang/Object"), (0, .class_ 3)] 3

/-- java/lang/Cloneable -/
def k13 : Class := { plain "java/lang/Cloneable" (some 0) with
  accessFlags := 1537
  interfaces := #[]
  cf := some (fileOf pool13 2 #[] #[] 1537 4 #[] #[])
  fields := #[]
  methods := #[]
  instanceTypes := #[]
  staticTypes := #[]
  resolved := Array.replicate 8 none
  statics := none }

/-- the primitive byte -/
def k14 : Class := { plain "byte" none with kind := .primitive 'B', accessFlags := 0x411 }
/-- [B -/
def k15 : Class := { plain "[B" (some 0) with kind := .array 14 .byte, interfaces := #[13, 2], accessFlags := 1041 }

def heap : Heap := #[{ cls := 7, slots := #[.long 0, .int 1, .null, .int 0, .null, .int 0, .int 0], vm := .statics 7 },
  { cls := 9, slots := #[.null, .null, .null], vm := .statics 9 },
  { cls := 10, slots := #[.null, .int 0, .ref 3, .int 0], vm := .statics 10 },
  { cls := 15, slots := #[.int 120, .int 45, .int 119, .int 111, .int 114, .int 100, .int 45, .int 111, .int 100, .int 100, .int 115], vm := .none }]
def classes : Array Class := #[k0, k1, k2, k3, k4, k5, k6, k7, k8, k9, k10, k11, k12, k13, k14, k15]
def interned : List (Array UInt16 × Addr) := []
def slotsUsed : Nat := 25
def theMethod : MethodId := ⟨1, 1⟩
def args0 : Array Value := #[.int 1, .int 20, .int 5, .int 88, .int 2]
def aboutOver (below : List Frame) : State where
  vm := { classes := classes, interned := interned.toArray }
  heap := heap
  slotsUsed := slotsUsed
  threads := #[{ frames := .invoking theMethod args0 :: below }]
def below0 : List Frame := [.native { method := ⟨0, 0⟩, args := #[] }]
def about1 : State := aboutOver below0
def p0 : Program := .bare "" "" ""
def e0 : Env := launch0.env 0 0 0
theorem w_frames : about1.frames = Frame.invoking theMethod args0 :: below0 := rfl
set_option maxRecDepth 65536 in
theorem w_args : argsFit about1.vm theMethod args0 = true := by decide +kernel
set_option maxRecDepth 65536 in
theorem w_heap : heapFits about1 = true := by decide +kernel
set_option maxRecDepth 65536 in
theorem w_runnable : about1.curStatus? = some .runnable := by decide +kernel
set_option maxRecDepth 65536 in
theorem w_alone : about1.alone = true := by decide +kernel
set_option maxRecDepth 65536 in
theorem w_named : about1.methodNamed? x = some theMethod := by decide +kernel
set_option maxRecDepth 65536 in
theorem w_hears : about1.hears theMethod below0 = true := by decide +kernel
set_option maxRecDepth 65536 in
theorem w_ripe : about1.ripe theMethod args0 below0 = true := by decide +kernel
theorem w_running : about1.status = .running := rfl
set_option maxRecDepth 65536 in
theorem w_room : about1.hasRoom e0.platform room_1 = true :=
  launch0.hasRoom_least _ room_1 (by decide +kernel) (by decide +kernel) (by decide +kernel) (by decide +kernel) (by decide +kernel) (by decide +kernel)
theorem allAtoms_all (ts : List Jvm.Cond) (a : Array Jvm.Value) (st : Jvm.State) : (allAtoms ts).before a st = ts.all (fun c => c.before a st) := by
  induction ts with
  | nil => rfl
  | cons c t ih =>
    show (Jvm.Cond.and c (allAtoms t)).before a st = _
    rw [Jvm.Cond.before_and, ih, List.all_cons]
def words1 : List Jvm.Cond := Jvm.Cond.code x code maxLocals ret :: tables_1
/-- a 'code' word, met by the world's own term for the bytes: nothing is compared byte by byte -/
theorem code_word {y : MethodName} {bytes : ByteArray} {mx : Nat} {rt : Option FieldType} {a : Array Value} {s : State} {m : MethodId} {meth : Method} {c : Code} (h1 : s.methodNamed? y = some m) (h2 : s.vm.method? m = some meth) (h3 : meth.code = some c) (h4 : c.code = bytes)
    (h5 : (c.maxLocals == mx && c.exceptionTable.isEmpty && decide (c.maxStack ≤ mostOperands) && decide (meth.sig.returnType = rt) && !meth.locks && decide (parseMethodDescriptor y.desc = some meth.sig)) = true) : (Jvm.Cond.code y bytes mx rt).before a s = true := by
  simp only [Bool.and_eq_true, beq_iff_eq, Bool.not_eq_true', decide_eq_true_eq] at h5
  obtain ⟨⟨⟨⟨⟨g1, g2⟩, g3⟩, g4⟩, g5⟩, g6⟩ := h5
  simp [Cond.before, Cond.holds, Cond.value, h1, h2, h3, h4, g1, g2, g3, g4, g5, g6]
def isCode : Jvm.Cond → Bool
  | .code _ _ _ _ => true
  | _ => false
theorem all_split {L : List Jvm.Cond} {P : Jvm.Cond → Bool} (h1 : L.all (fun c => isCode c || P c) = true) (h2 : ∀ c ∈ L.filter isCode, P c = true) : L.all P = true := by
  refine List.all_eq_true.mpr fun c hc => ?_
  have h := List.all_eq_true.mp h1 c hc
  rcases Bool.eq_false_or_eq_true (isCode c) with hi | hi
  · exact h2 c (List.mem_filter.mpr ⟨hc, hi⟩)
  · simpa [hi] using h
set_option maxRecDepth 65536 in
theorem w_c0 : (Jvm.Cond.code x code maxLocals ret).before args0 about1 = true := code_word (m := ⟨1, 1⟩) (meth := k1m1) (c := k1c1) (by decide +kernel) rfl rfl rfl (by decide +kernel)
set_option maxRecDepth 65536 in
theorem w_c1 : (Jvm.Cond.code ({ cls := "com/example/word_odds/wordodds/filter/VerdictFieldBeginsPinLaw", name := "nameByte", desc := "(II)B" } : Jvm.MethodName) method_3_code (3 : Nat) (Option.some Jvm.ClassFile.FieldType.byte)).before args0 about1 = true := code_word (m := ⟨1, 2⟩) (meth := k1m2) (c := k1c2) (by decide +kernel) rfl rfl rfl (by decide +kernel)
set_option maxRecDepth 65536 in
theorem w_c2 : (Jvm.Cond.code ({ cls := "java/lang/String", name := "charAt", desc := "(I)C" } : Jvm.MethodName) jdk_42_method_56_code (2 : Nat) (Option.some Jvm.ClassFile.FieldType.char)).before args0 about1 = true := code_word (m := ⟨7, 1⟩) (meth := k7m1) (c := k7c1) (by decide +kernel) rfl rfl rfl (by decide +kernel)
set_option maxRecDepth 65536 in
theorem w_c3 : (Jvm.Cond.code ({ cls := "java/lang/String", name := "isLatin1", desc := "()Z" } : Jvm.MethodName) jdk_42_method_154_code (1 : Nat) (Option.some Jvm.ClassFile.FieldType.boolean)).before args0 about1 = true := code_word (m := ⟨7, 2⟩) (meth := k7m2) (c := k7c2) (by decide +kernel) rfl rfl rfl (by decide +kernel)
set_option maxRecDepth 65536 in
theorem w_c4 : (Jvm.Cond.code ({ cls := "java/lang/StringLatin1", name := "charAt", desc := "([BI)C" } : Jvm.MethodName) jdk_43_method_2_code (2 : Nat) (Option.some Jvm.ClassFile.FieldType.char)).before args0 about1 = true := code_word (m := ⟨8, 1⟩) (meth := k8m1) (c := k8c1) (by decide +kernel) rfl rfl rfl (by decide +kernel)
set_option maxRecDepth 65536 in
theorem w_c5 : (Jvm.Cond.code ({ cls := "java/lang/String", name := "checkIndex", desc := "(II)V" } : Jvm.MethodName) jdk_42_method_155_code (2 : Nat) (Option.none : Option Jvm.ClassFile.FieldType)).before args0 about1 = true := code_word (m := ⟨7, 3⟩) (meth := k7m3) (c := k7c3) (by decide +kernel) rfl rfl rfl (by decide +kernel)
set_option maxRecDepth 65536 in
theorem w_c6 : (Jvm.Cond.code ({ cls := "jdk/internal/util/Preconditions", name := "checkIndex", desc := "(IILjava/util/function/BiFunction;)I" } : Jvm.MethodName) jdk_41_method_11_code (3 : Nat) (Option.some Jvm.ClassFile.FieldType.int)).before args0 about1 = true := code_word (m := ⟨9, 1⟩) (meth := k9m1) (c := k9c1) (by decide +kernel) rfl rfl rfl (by decide +kernel)
set_option maxRecDepth 65536 in
theorem w_c7 : (Jvm.Cond.code ({ cls := "com/example/word_odds/wordodds/filter/VerdictFieldBeginsPinLaw", name := "suffixByte", desc := "(IB)B" } : Jvm.MethodName) method_4_code (3 : Nat) (Option.some Jvm.ClassFile.FieldType.byte)).before args0 about1 = true := code_word (m := ⟨1, 3⟩) (meth := k1m3) (c := k1c3) (by decide +kernel) rfl rfl rfl (by decide +kernel)
set_option maxRecDepth 65536 in
theorem w_c8 : (Jvm.Cond.code ({ cls := "com/example/word_odds/wordodds/filter/VerdictField", name := "begins", desc := "([BII)Z" } : Jvm.MethodName) prog_3_method_2_code (5 : Nat) (Option.some Jvm.ClassFile.FieldType.boolean)).before args0 about1 = true := code_word (m := ⟨10, 1⟩) (meth := k10m1) (c := k10c1) (by decide +kernel) rfl rfl rfl (by decide +kernel)
set_option maxRecDepth 65536 in
theorem w_c9 : (Jvm.Cond.code ({ cls := "java/lang/Math", name := "min", desc := "(II)I" } : Jvm.MethodName) jdk_29_method_69_code (2 : Nat) (Option.some Jvm.ClassFile.FieldType.int)).before args0 about1 = true := code_word (m := ⟨11, 1⟩) (meth := k11m1) (c := k11c1) (by decide +kernel) rfl rfl rfl (by decide +kernel)
set_option maxRecDepth 65536 in
theorem w_c10 : (Jvm.Cond.code ({ cls := "java/lang/Math", name := "min", desc := "(JJ)J" } : Jvm.MethodName) jdk_29_method_70_code (4 : Nat) (Option.some Jvm.ClassFile.FieldType.long)).before args0 about1 = true := code_word (m := ⟨11, 2⟩) (meth := k11m2) (c := k11c2) (by decide +kernel) rfl rfl rfl (by decide +kernel)
set_option maxRecDepth 65536 in
theorem w_c11 : (Jvm.Cond.code ({ cls := "com/example/word_odds/wordodds/filter/VerdictField", name := "lowerCase", desc := "(B)B" } : Jvm.MethodName) prog_3_method_3_code (1 : Nat) (Option.some Jvm.ClassFile.FieldType.byte)).before args0 about1 = true := code_word (m := ⟨10, 2⟩) (meth := k10m2) (c := k10c2) (by decide +kernel) rfl rfl rfl (by decide +kernel)
set_option maxRecDepth 65536 in
theorem w_c12 : (Jvm.Cond.code ({ cls := "com/example/word_odds/wordodds/filter/VerdictFieldBeginsPinLaw", name := "ws", desc := "(B)Z" } : Jvm.MethodName) method_5_code (1 : Nat) (Option.some Jvm.ClassFile.FieldType.boolean)).before args0 about1 = true := code_word (m := ⟨1, 4⟩) (meth := k1m4) (c := k1c4) (by decide +kernel) rfl rfl rfl (by decide +kernel)
def codes1 : List Jvm.Cond := [Jvm.Cond.code x code maxLocals ret, Jvm.Cond.code ({ cls := "com/example/word_odds/wordodds/filter/VerdictFieldBeginsPinLaw", name := "nameByte", desc := "(II)B" } : Jvm.MethodName) method_3_code (3 : Nat) (Option.some Jvm.ClassFile.FieldType.byte), Jvm.Cond.code ({ cls := "java/lang/String", name := "charAt", desc := "(I)C" } : Jvm.MethodName) jdk_42_method_56_code (2 : Nat) (Option.some Jvm.ClassFile.FieldType.char), Jvm.Cond.code ({ cls := "java/lang/String", name := "isLatin1", desc := "()Z" } : Jvm.MethodName) jdk_42_method_154_code (1 : Nat) (Option.some Jvm.ClassFile.FieldType.boolean), Jvm.Cond.code ({ cls := "java/lang/StringLatin1", name := "charAt", desc := "([BI)C" } : Jvm.MethodName) jdk_43_method_2_code (2 : Nat) (Option.some Jvm.ClassFile.FieldType.char), Jvm.Cond.code ({ cls := "java/lang/String", name := "checkIndex", desc := "(II)V" } : Jvm.MethodName) jdk_42_method_155_code (2 : Nat) (Option.none : Option Jvm.ClassFile.FieldType), Jvm.Cond.code ({ cls := "jdk/internal/util/Preconditions", name := "checkIndex", desc := "(IILjava/util/function/BiFunction;)I" } : Jvm.MethodName) jdk_41_method_11_code (3 : Nat) (Option.some Jvm.ClassFile.FieldType.int), Jvm.Cond.code ({ cls := "com/example/word_odds/wordodds/filter/VerdictFieldBeginsPinLaw", name := "suffixByte", desc := "(IB)B" } : Jvm.MethodName) method_4_code (3 : Nat) (Option.some Jvm.ClassFile.FieldType.byte), Jvm.Cond.code ({ cls := "com/example/word_odds/wordodds/filter/VerdictField", name := "begins", desc := "([BII)Z" } : Jvm.MethodName) prog_3_method_2_code (5 : Nat) (Option.some Jvm.ClassFile.FieldType.boolean), Jvm.Cond.code ({ cls := "java/lang/Math", name := "min", desc := "(II)I" } : Jvm.MethodName) jdk_29_method_69_code (2 : Nat) (Option.some Jvm.ClassFile.FieldType.int), Jvm.Cond.code ({ cls := "java/lang/Math", name := "min", desc := "(JJ)J" } : Jvm.MethodName) jdk_29_method_70_code (4 : Nat) (Option.some Jvm.ClassFile.FieldType.long), Jvm.Cond.code ({ cls := "com/example/word_odds/wordodds/filter/VerdictField", name := "lowerCase", desc := "(B)B" } : Jvm.MethodName) prog_3_method_3_code (1 : Nat) (Option.some Jvm.ClassFile.FieldType.byte), Jvm.Cond.code ({ cls := "com/example/word_odds/wordodds/filter/VerdictFieldBeginsPinLaw", name := "ws", desc := "(B)Z" } : Jvm.MethodName) method_5_code (1 : Nat) (Option.some Jvm.ClassFile.FieldType.boolean)]
set_option maxRecDepth 65536 in
theorem codes_eq : words1.filter isCode = codes1 := rfl
theorem w_codes : ∀ c ∈ words1.filter isCode, c.before args0 about1 = true := by
  rw [codes_eq]
  intro c hc
  simp only [codes1, List.mem_cons, List.not_mem_nil, or_false] at hc
  rcases hc with rfl | rfl | rfl | rfl | rfl | rfl | rfl | rfl | rfl | rfl | rfl | rfl | rfl
  · exact w_c0
  · exact w_c1
  · exact w_c2
  · exact w_c3
  · exact w_c4
  · exact w_c5
  · exact w_c6
  · exact w_c7
  · exact w_c8
  · exact w_c9
  · exact w_c10
  · exact w_c11
  · exact w_c12
set_option maxRecDepth 65536 in
theorem w_t1 : (words1.take 24).all (fun c => isCode c || c.before args0 about1) = true := by decide +kernel
set_option maxRecDepth 65536 in
theorem w_t2 : ((words1.drop 24).take 24).all (fun c => isCode c || c.before args0 about1) = true := by decide +kernel
set_option maxRecDepth 65536 in
theorem w_t3 : ((words1.drop 24).drop 24).all (fun c => isCode c || c.before args0 about1) = true := by decide +kernel
theorem w_tables : (allAtoms (Jvm.Cond.code x code maxLocals ret :: tables_1)).before args0 about1 = true := by
  rw [allAtoms_all]
  show words1.all (fun c => c.before args0 about1) = true
  refine all_split ?_ w_codes
  rw [← List.take_append_drop 24 words1, List.all_append, w_t1, ← List.take_append_drop 24 (words1.drop 24), List.all_append, w_t2, w_t3]
  rfl
set_option maxRecDepth 65536 in
theorem w_rest : rest_1_c.before args0 about1 = true := by decide +kernel
set_option maxRecDepth 65536 in
theorem w_case : (Jvm.Cond.and given_1 narrow_1).before args0 about1 = true := by decide +kernel
set_option maxRecDepth 65536 in
theorem w_consts : constsHeld consts_1 about1 := Jvm.Lit.constsHeldB_iff.mp (by decide +kernel)
theorem w_applies : (headSpec (Jvm.Cond.code x code maxLocals ret :: tables_1) room_1).applies x e0.platform about1 = true :=
  (Spec.applies_iff w_frames).mpr ⟨w_running, w_runnable, w_alone, w_named, w_hears, w_ripe, w_room, w_tables⟩
theorem atStart : AtStart classFile x code maxLocals ret World_1 tables_1 room_1 Calls_1 rest_1 Pre_1 launch0 p0 e0 about1 theMethod args0 below0 :=
  ⟨lists_1, trivial, launch0.admits_env _ _ _, launch0.least_env, fairChoices_fair.cas, fairChoices_fair.clock, w_frames, w_args, w_heap, w_applies, ⟨w_consts, trivial⟩, w_rest, w_case⟩
end start1
theorem witness_1 : WitnessClaimed_1 := ⟨start1.p0, start1.e0, start1.about1, start1.theMethod, start1.args0, start1.below0, start1.atStart⟩
end Jvm.Pilot.@@N@@
