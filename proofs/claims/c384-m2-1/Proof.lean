import JvmDerived
import JvmDerived.Pilot.@@N@@Statement
import JvmDerived.Pilot.@@N@@Code
set_option linter.unusedVariables false
set_option linter.unusedSimpArgs false
@@BLOCK:NumsL.lean.txt@@
namespace Jvm.RoadKit
open Sem ClassFile Op Lib Jvm.Stand Jvm.Free Jvm.LawKit
section OwnRuns
variable {p : Program} {l : Launch} {e : Env} {R : Room} {s : State} {m : MethodId} {args : Array Value} {below : List Frame} {meth : Method} {c : Code} {T : State} {locs : List Loc} {cells slots : Nat}
/-- from U the invocation comes to its end, and there Q holds -/
def Runs (p : Program) (e : Env) (below : List Frame) (Q : Outcome → State → Prop) (U : State) : Prop :=
  ∃ s₂ o, Steps p.tables e below U s₂ ∧ s₂.status = .running ∧ Ended s₂ below o ∧ Q o s₂
def QE (s : State) (Q : Option Value → Heap → List Loc → Prop) (C S : Nat) : Outcome → State → Prop :=
  fun o U' => ∃ v L, o = .returned v ∧ Q v U'.heap L ∧ FrameEnd s o U' L C S
theorem Runs.by {Q : Outcome → State → Prop} {U U' : State} (h : ∀ t, Steps p.tables e below U' t → Steps p.tables e below U t) (k : Runs p e below Q U') : Runs p e below Q U := by
  obtain ⟨s2, o, h1, h2⟩ := k
  exact ⟨s2, o, h _ h1, h2⟩
theorem Runs.ret {Q : Option Value → Heap → List Loc → Prop} {C S : Nat} {t : FieldType} {w : Value} {i : Instr} {pc : Nat} {Ls : Array Slot} {rest : List Value}
    (X : Stand p l e R s m args below meth c T locs cells slots) (hx : p.tables.exec = Jvm.exec) (hret : meth.sig.returnType = some t) (hlk : meth.locks = false)
    (hi : (i = .ireturn ∧ (t = .int ∨ t = .boolean ∨ t = .byte ∨ t = .char ∨ t = .short) ∧ ∃ z, w = .int z) ∨ (i = .lreturn ∧ t = .long ∧ ∃ z, w = .long z) ∨ (i = .dreturn ∧ t = .double ∧ ∃ z, w = .double z) ∨ (i = .freturn ∧ t = .float ∧ ∃ z, w = .float z) ∨ (i = .areturn ∧ t.isReference = true ∧ w.isRef = true))
    (hn : narrow t w = w) (hd : decode c.code pc = .ok (i, 1)) (hC : cells ≤ C) (hS : slots ≤ S) (hQ : Q (some w) T.heap locs) : Runs p e below (QE s Q C S) (T.setTop (mkF m pc Ls (w :: rest))) := by
  obtain ⟨fs, hr, hrun, hended, hW, hsame⟩ := X.leave (v := some w) (fun h => by rw [hret] at h; cases h) hlk
  exact ⟨_, _, retOut X hx hret hn hi hd hr, hrun, hended, _, _, rfl, hQ, ⟨_, rfl⟩, hW, hsame.mono hC hS⟩
theorem Runs.retV {Q : Option Value → Heap → List Loc → Prop} {C S : Nat} {pc : Nat} {Ls : Array Slot}
    (X : Stand p l e R s m args below meth c T locs cells slots) (hx : p.tables.exec = Jvm.exec) (hret : meth.sig.returnType = none) (hlk : meth.locks = false)
    (hd : decode c.code pc = .ok (.return_, 1)) (hC : cells ≤ C) (hS : slots ≤ S) (hQ : Q none T.heap locs) : Runs p e below (QE s Q C S) (T.setTop (mkF m pc Ls [])) := by
  obtain ⟨fs, hr, hrun, hended, hW, hsame⟩ := X.leave (v := none) (fun _ => rfl) hlk
  exact ⟨_, _, X.returnOut hx hret hd hr, hrun, hended, _, _, rfl, hQ, ⟨_, rfl⟩, hW, hsame.mono hC hS⟩
theorem own_narrow_b (x : Int32) (h : x = 0 ∨ x = 1) : narrow .boolean (.int x) = .int x := by rcases h with rfl | rfl <;> rfl
end OwnRuns
section OwnWide
variable {p : Program} {l : Launch} {e : Env} {R : Room} {s Z : State} {m : MethodId} {args : Array Value} {below : List Frame} {meth : Method} {c : Code} {T : State} {locs : List Loc} {cells slots : Nat} {vm1 : Vm} {EL : List (String × Nat)} {a0 : Array Value} {h : Heap}
/-- as QE, for a body that may load String constants -/
def QEW (Z : State) (EL : List (String × Nat)) (s : State) (Q : Option Value → Heap → List Loc → Prop) (C S : Nat) : Outcome → State → Prop :=
  fun o U' => ∃ v L, o = .returned v ∧ Q v U'.heap L ∧ CHr Z EL s.vm s.heap U'.vm U'.heap ∧ ReturnedEndW s o U' L C S
theorem own_monoW {t : State} {o : Outcome} {L : List Loc} {k n k' n' : Nat} (h : ReturnedEndW s o t L k n) (hk : k ≤ k') (hn : n ≤ n') : ReturnedEndW s o t L k' n' := ⟨h.1, h.2.1, h.2.2.1, h.2.2.2.mono hk hn⟩
theorem Runs.retW {Q : Option Value → Heap → List Loc → Prop} {C S n : Nat} {t : FieldType} {w : Value} {i : Instr} {pc : Nat} {Ls : Array Slot} {rest : List Value}
    (X : Stand p l e R (s.setVm vm1) m args below meth c T locs cells slots) (hx : p.tables.exec = Jvm.exec) (hret : meth.sig.returnType = some t) (hlk : meth.locks = false) (eT : T.heap = h) (hS : s.Since vm1 n) (hk : n ≤ h.size) (hZ : Z.Warmed39 vm1) (hEL : EW Z a0 EL) (hC : CHr Z EL s.vm s.heap vm1 h)
    (hi : (i = .ireturn ∧ (t = .int ∨ t = .boolean ∨ t = .byte ∨ t = .char ∨ t = .short) ∧ ∃ z, w = .int z) ∨ (i = .lreturn ∧ t = .long ∧ ∃ z, w = .long z) ∨ (i = .dreturn ∧ t = .double ∧ ∃ z, w = .double z) ∨ (i = .freturn ∧ t = .float ∧ ∃ z, w = .float z) ∨ (i = .areturn ∧ t.isReference = true ∧ w.isRef = true))
    (hn : narrow t w = w) (hd : decode c.code pc = .ok (i, 1)) (hCc : cells ≤ C) (hSs : slots ≤ S) (hQ : Q (some w) h locs) : Runs p e below (QEW Z EL s Q C S) (T.setTop (mkF m pc Ls (w :: rest))) := by
  subst eT
  obtain ⟨fs, hr, hrun, hended, hW⟩ := X.leaveW hS hk (v := some w) (fun h => by rw [hret] at h; cases h) hlk
  have hA := hC.trans (CHv.at X hZ hEL hC.1)
  exact ⟨_, _, retOut X hx hret hn hi hd hr, hrun, hended, _, _, rfl, hQ, hA, own_monoW hW hCc hSs⟩
theorem Runs.retVW {Q : Option Value → Heap → List Loc → Prop} {C S n : Nat} {pc : Nat} {Ls : Array Slot}
    (X : Stand p l e R (s.setVm vm1) m args below meth c T locs cells slots) (hx : p.tables.exec = Jvm.exec) (hret : meth.sig.returnType = none) (hlk : meth.locks = false) (eT : T.heap = h) (hS : s.Since vm1 n) (hk : n ≤ h.size) (hZ : Z.Warmed39 vm1) (hEL : EW Z a0 EL) (hC : CHr Z EL s.vm s.heap vm1 h)
    (hd : decode c.code pc = .ok (.return_, 1)) (hCc : cells ≤ C) (hSs : slots ≤ S) (hQ : Q none h locs) : Runs p e below (QEW Z EL s Q C S) (T.setTop (mkF m pc Ls [])) := by
  subst eT
  obtain ⟨fs, hr, hrun, hended, hW⟩ := X.leaveW hS hk (v := none) (fun _ => rfl) hlk
  have hA := hC.trans (CHv.at X hZ hEL hC.1)
  exact ⟨_, _, X.returnOut hx hret hd hr, hrun, hended, _, _, rfl, hQ, hA, own_monoW hW hCc hSs⟩
/-- a callee that may load String constants and writes the object at x, of which is known that no constant books it -/
theorem own_backSH {y : MethodName} {bytes : ByteArray} {maxL : Nat} {ret : Option FieldType} {rm : Room} {len W : Nat} {as' : Array Value} {Q : Option Value → Heap → List Loc → Prop} {vm0 : Vm} {x : Addr}
    (hM : MetFree l y (head1 [Cond.code y bytes maxL ret] rm) (fun a U => a = as' ∧ Z.Warmed39 U.vm ∧ U.heap = h ∧ CHv Z EL U.vm h ∧ Safe Z EL U.vm h x) (fun _ _ _ _ _ => True) (fun _ U o U' => ∃ v L, o = .returned v ∧ Q v U'.heap L ∧ CHr Z EL U.vm U.heap U'.vm U'.heap ∧ ReturnedEndW U o U' L rm.cells rm.slots))
    (hZ : Z.Warmed39 vm0) (wc : (Cond.code y bytes maxL ret).before a0 Z = true) (wz : (Cond.initialized y.cls).before a0 Z = true) (hf : rm.frames + 1 ≤ R.frames) (hl : W + (maxL + 11) + rm.locals ≤ R.locals) (hEL : EW Z a0 EL) (H : CHv Z EL vm0 h) (hxl : x < h.size) (Sx : Safe Z EL vm0 h x) :
    BackS l R p e below (s.setVm vm0) args y len W (fun A a => a = as' ∧ A.U.heap = h ∧ A.cells + rm.cells ≤ R.cells ∧ A.slots + rm.slots ≤ R.slots)
      (fun A _ v B => ∃ L, Q v B.U.heap L ∧ B.locs = A.locs ++ L ∧ B.cells = A.cells + rm.cells ∧ B.slots = A.slots + rm.slots ∧ CHr Z EL vm0 h B.U.vm B.U.heap) := by
  refine BackS.of_freeW (bytes := bytes) (maxL := maxL) (ret := ret) (E := fun _ first o t L k n => k = rm.cells ∧ n = rm.slots ∧ (∃ v, o = .returned v ∧ Q v t.heap L) ∧ CHr Z EL first.vm first.heap t.vm t.heap) hM hf hl ?_ ?_ (fun _ _ _ _ _ _ _ _ _ => trivial) ?_ ?_
  · intro m meth c A a Y hp
    have hU : Z.Warmed39 A.U.vm := wtrans (s := s.setVm vm0) hZ Y.warmed
    exact ⟨by show (Cond.and _ .tt).before a A.U = true; rw [Cond.before_and, mv hU wc]; rfl, mv hU wc, mv hU wz, hp.2.2.1, hp.2.2.2⟩
  · intro m meth c A a g mk Y hp
    have hr := CHv.at Y hZ hEL H
    exact ⟨hp.1, wtrans (s := s.setVm vm0) hZ Y.warmed, hp.2.1, hr.1, hr.safe hxl Sx⟩
  · rintro _ _ _ _ ⟨v, L, h1, h2, h3, h4⟩
    exact ⟨L, _, _, h4, rfl, rfl, ⟨v, h1, h2⟩, h3⟩
  · rintro m meth c A a g mk v t L k n Y hp _ _ ⟨e1, e2, ⟨v', e3, e4⟩, e5⟩
    cases e3; subst e1 e2
    refine ⟨L, e4, rfl, rfl, rfl, (CHv.at Y hZ hEL H).trans ?_⟩
    rw [← hp.2.1]; exact e5
theorem own_safe_arv {x : Addr} {k : ClassId} {ty : FieldType} {z : Int32} {vs : List Value} {d : Value} {vm : Vm} (hal : Z.vm.Alike vm) (V : Arv Z h x k ty z vs d) (ht : ty ≠ .byte) : Safe Z EL vm h x := by
  obtain ⟨c, A, -⟩ := V; exact Safe.arr hal A ht
/-- as QEW, where Q speaks of the machine's tables too -/
def QEX (Z : State) (EL : List (String × Nat)) (s : State) (Q : Option Value → Heap → List Loc → Vm → Prop) (C S : Nat) : Outcome → State → Prop :=
  fun o U' => ∃ v L, o = .returned v ∧ Q v U'.heap L U'.vm ∧ CHr Z EL s.vm s.heap U'.vm U'.heap ∧ ReturnedEndW s o U' L C S
theorem Runs.retX {Q : Option Value → Heap → List Loc → Vm → Prop} {C S n : Nat} {t : FieldType} {w : Value} {i : Instr} {pc : Nat} {Ls : Array Slot} {rest : List Value}
    (X : Stand p l e R (s.setVm vm1) m args below meth c T locs cells slots) (hx : p.tables.exec = Jvm.exec) (hret : meth.sig.returnType = some t) (hlk : meth.locks = false) (eT : T.heap = h) (hS : s.Since vm1 n) (hk : n ≤ h.size) (hZ : Z.Warmed39 vm1) (hEL : EW Z a0 EL) (hC : CHr Z EL s.vm s.heap vm1 h)
    (hi : (i = .ireturn ∧ (t = .int ∨ t = .boolean ∨ t = .byte ∨ t = .char ∨ t = .short) ∧ ∃ z, w = .int z) ∨ (i = .lreturn ∧ t = .long ∧ ∃ z, w = .long z) ∨ (i = .dreturn ∧ t = .double ∧ ∃ z, w = .double z) ∨ (i = .freturn ∧ t = .float ∧ ∃ z, w = .float z) ∨ (i = .areturn ∧ t.isReference = true ∧ w.isRef = true))
    (hn : narrow t w = w) (hd : decode c.code pc = .ok (i, 1)) (hCc : cells ≤ C) (hSs : slots ≤ S) (hQ : Q (some w) h locs T.vm) : Runs p e below (QEX Z EL s Q C S) (T.setTop (mkF m pc Ls (w :: rest))) := by
  subst eT
  obtain ⟨fs, hr, hrun, hended, hW⟩ := X.leaveW hS hk (v := some w) (fun h => by rw [hret] at h; cases h) hlk
  have hA := hC.trans (CHv.at X hZ hEL hC.1)
  exact ⟨_, _, retOut X hx hret hn hi hd hr, hrun, hended, _, _, rfl, hQ, hA, own_monoW hW hCc hSs⟩
/-- a callee that may load String constants, told of the tables (PX) and of one address x that no constant books, and that tells of the tables -/
theorem own_backX {y : MethodName} {bytes : ByteArray} {maxL : Nat} {ret : Option FieldType} {rm : Room} {len W : Nat} {as' : Array Value} {Q : Option Value → Heap → List Loc → Vm → Prop} {vm0 : Vm} {x : Addr} {PX : Vm → Prop}
    (hM : MetFree l y (head1 [Cond.code y bytes maxL ret] rm) (fun a U => a = as' ∧ Z.Warmed39 U.vm ∧ U.heap = h ∧ CHv Z EL U.vm h ∧ Safe Z EL U.vm h x ∧ PX U.vm) (fun _ _ _ _ _ => True) (fun _ U o U' => ∃ v L, o = .returned v ∧ Q v U'.heap L U'.vm ∧ CHr Z EL U.vm U.heap U'.vm U'.heap ∧ ReturnedEndW U o U' L rm.cells rm.slots))
    (hZ : Z.Warmed39 vm0) (wc : (Cond.code y bytes maxL ret).before a0 Z = true) (wz : (Cond.initialized y.cls).before a0 Z = true) (hf : rm.frames + 1 ≤ R.frames) (hl : W + (maxL + 11) + rm.locals ≤ R.locals) (hEL : EW Z a0 EL) (H : CHv Z EL vm0 h) (hxl : x < h.size) (Sx : Safe Z EL vm0 h x) (hPX : ∀ vm', (s.setVm vm0).Warmed39 vm' → PX vm') :
    BackS l R p e below (s.setVm vm0) args y len W (fun A a => a = as' ∧ A.U.heap = h ∧ A.cells + rm.cells ≤ R.cells ∧ A.slots + rm.slots ≤ R.slots)
      (fun A _ v B => ∃ L, Q v B.U.heap L B.U.vm ∧ B.locs = A.locs ++ L ∧ B.cells = A.cells + rm.cells ∧ B.slots = A.slots + rm.slots ∧ CHr Z EL vm0 h B.U.vm B.U.heap) := by
  refine BackS.of_freeW (bytes := bytes) (maxL := maxL) (ret := ret) (E := fun _ first o t L k n => k = rm.cells ∧ n = rm.slots ∧ (∃ v, o = .returned v ∧ Q v t.heap L t.vm) ∧ CHr Z EL first.vm first.heap t.vm t.heap) hM hf hl ?_ ?_ (fun _ _ _ _ _ _ _ _ _ => trivial) ?_ ?_
  · intro m meth c A a Y hp
    have hU : Z.Warmed39 A.U.vm := wtrans (s := s.setVm vm0) hZ Y.warmed
    exact ⟨by show (Cond.and _ .tt).before a A.U = true; rw [Cond.before_and, mv hU wc]; rfl, mv hU wc, mv hU wz, hp.2.2.1, hp.2.2.2⟩
  · intro m meth c A a g mk Y hp
    have hr := CHv.at Y hZ hEL H
    exact ⟨hp.1, wtrans (s := s.setVm vm0) hZ Y.warmed, hp.2.1, hr.1, hr.safe hxl Sx, hPX _ Y.warmed.wide⟩
  · rintro _ _ _ _ ⟨v, L, h1, h2, h3, h4⟩
    exact ⟨L, _, _, h4, rfl, rfl, ⟨v, h1, h2⟩, h3⟩
  · rintro m meth c A a g mk v t L k n Y hp _ _ ⟨e1, e2, ⟨v', e3, e4⟩, e5⟩
    cases e3; subst e1 e2
    refine ⟨L, e4, rfl, rfl, rfl, (CHv.at Y hZ hEL H).trans ?_⟩
    rw [← hp.2.1]; exact e5
theorem own_lstay {vm0 vm1 : Vm} {own : String} {ix : Nat} {a : Addr} (L : Lit (Z.setVm vm0) own ix a) (hW : (s.setVm vm0).Warmed39 vm1) : Lit (Z.setVm vm1) own ix a := Lit.stays (s := s) L hW
/-- a String constant that is booked, its text, and one address that it isn't -/
def own_LS (Z : State) (vm : Vm) (h : Heap) (ln : Addr) (own : String) (ix : Nat) (z : Int32) (vs : List Value) : Prop :=
  ∃ (a b : Addr) (k : ClassId), Lit (Z.setVm vm) own ix a ∧ Exa Z h a "java/lang/String" ∧ Fld Z h a "java/lang/String" "coder" "B" (.int (0 : Int32)) ∧ Fld Z h a "java/lang/String" "value" "[B" (.ref b) ∧ Arv Z h b k .byte z vs (.int 0) ∧ ln ≠ a ∧ ln ≠ b
theorem own_LS.step {vm0 vm1 : Vm} {h' : Heap} {ln : Addr} {own : String} {ix : Nat} {z : Int32} {vs : List Value} (F : own_LS Z vm0 h ln own ix z vs) (hW : (s.setVm vm0).Warmed39 vm1) (K : Keep h h' []) : own_LS Z vm1 h' ln own ix z vs := by
  obtain ⟨a, b, k, L, f1, f2, f3, f4, n1, n2⟩ := F
  exact ⟨a, b, k, own_lstay L hW, f1.keep K, f2.keep K nin0, f3.keep K nin0, f4.keep K nin0, n1, n2⟩
theorem own_LS.wr {vm0 : Vm} {h' : Heap} {ln : Addr} {own : String} {ix : Nat} {z : Int32} {vs : List Value} {sl : Nat} {v : Value} (F : own_LS Z vm0 h ln own ix z vs) (W : Wr h h' ln sl v) : own_LS Z vm0 h' ln own ix z vs := by
  obtain ⟨a, b, k, L, f1, f2, f3, f4, n1, n2⟩ := F
  exact ⟨a, b, k, L, f1.wr W, f2.other W (Or.inl (Ne.symm n1)), f3.other W (Or.inl (Ne.symm n1)), f4.other W (Ne.symm n2), n1, n2⟩
end OwnWide
theorem own_selp {Z s : State} {a0 args : Array Value} {y : MethodName} {n : Nat} (hZ : Z.Warmed39 s.vm) (wi : (Cond.instantiable y.cls n).before a0 Z = true) (wp : (Cond.privateMethod y).before a0 Z = true) (wm : (Cond.instanceMethod y).before a0 Z = true) (hy : y.cls ≠ "java/lang/invoke/MethodHandle" ∧ y.cls ≠ "java/lang/invoke/VarHandle") : (Cond.selects y.cls y y).before args s = true := by
  obtain ⟨c, k, h1, h2, h3, h4, -⟩ := Cond.instantiable_spec (mvT (args := args) hZ wi)
  exact selects_self_of_private h1 h2 (by simp only [Bool.or_eq_false_iff] at h4; exact h4.1) (Cond.privateMethod_at (mvP hZ wp (args := args))) (mvT hZ wm) hy
theorem own_nneg {z : Int32} (h : 0 ≤ z.toInt) : ¬ z < 0 := by
  have e0 : (0 : Int32).toInt = 0 := by decide
  rw [Int32.lt_iff_toInt_lt]; omega
theorem own_cap {z : Int32} {n : Nat} (h : z.toInt ≤ n) : z.toNatClampNeg ≤ n := by show Int.toNat _ ≤ _; omega
section OwnArf
variable {Z : State} {h h' : Heap} {a b : Addr} {k : ClassId} {ty : FieldType} {z j : Int32} {f g : Nat → Value} {v w : Value} {sl : Nat} {ws : List Addr} {c : Cell}
def own_up {α : Type} (f : Nat → α) (n : Nat) (x : α) : Nat → α := fun i => if i = n then x else f i
theorem own_up_same {α : Type} (f : Nat → α) (n : Nat) (x : α) : own_up f n x n = x := by simp [own_up]
theorem own_up_ne {α : Type} (f : Nat → α) {n i : Nat} (x : α) (q : i ≠ n) : own_up f n x i = f i := by simp [own_up, q]
theorem own_up_map {α β : Type} (g : α → β) (w : Nat → α) (n : Nat) (x : α) (j : Nat) : own_up (fun j => g (w j)) n (g x) j = g (own_up w n x j) := by unfold own_up; split <;> rfl
/-- an array: its class, its length, what stands at each place -/
def Arf (Z : State) (h : Heap) (a : Addr) (k : ClassId) (ty : FieldType) (z : Int32) (f : Nat → Value) : Prop :=
  ∃ c : Cell, Arr Z h a c ty ∧ c.cls = k ∧ c.slots.size = z.toNatClampNeg ∧ ¬ z < 0 ∧ ∀ i, i < z.toNatClampNeg → c.slots[i]? = some (f i)
theorem Arf.lt (F : Arf Z h a k ty z f) : a < h.size := by obtain ⟨c, A, -⟩ := F; exact A.lt
theorem Arf.ext (F : Arf Z h a k ty z f) (E : Ext h h') : Arf Z h' a k ty z f := by obtain ⟨c, A, r⟩ := F; exact ⟨c, A.ext E, r⟩
theorem Arf.other (F : Arf Z h b k ty z f) (W : Wr h h' a sl v) (q : b ≠ a) : Arf Z h' b k ty z f := by obtain ⟨c, A, r⟩ := F; exact ⟨c, A.other W q, r⟩
theorem Arf.keep (F : Arf Z h a k ty z f) (K : Keep h h' ws) (q : a ∉ ws) : Arf Z h' a k ty z f := by obtain ⟨c, A, r⟩ := F; exact ⟨c, ⟨K.2.1 a c A.1 q, A.2⟩, r⟩
theorem Arf.cast (F : Arf Z h a k ty z f) (e : ∀ i, i < z.toNatClampNeg → f i = g i) : Arf Z h a k ty z g := by obtain ⟨c, A, r1, r2, r3, H⟩ := F; exact ⟨c, A, r1, r2, r3, fun i hi => by rw [H i hi, e i hi]⟩
theorem Arf.new (A : Arr Z h a (newA k ty z) ty) (q : ¬ z < 0) : Arf Z h a k ty z (fun _ => defaultValue ty) := ⟨_, A, rfl, sz_new _ _ _, q, fun i hi => by simp [newA, hi]⟩
theorem Arf.set {n : Nat} (A : Arr Z h a c ty) (q1 : c.cls = k) (S : c.slots.size = z.toNatClampNeg) (q3 : ¬ z < 0) (H : ∀ i, i < z.toNatClampNeg → c.slots[i]? = some (f i)) (W : Wr h h' a j.toNatClampNeg v) (hj : j.toNatClampNeg = n) : Arf Z h' a k ty z (own_up f n v) := by
  refine ⟨_, A.same W, q1, by rw [sz_set]; exact S, q3, fun i hi => ?_⟩
  rw [hj]
  by_cases u : i = n
  · subst u; simp [Cell.setSlot, own_up, S, hi]
  · have := H i hi; simp only [Cell.setSlot, own_up, u, if_false] at this ⊢
    rw [Array.getElem?_setIfInBounds_ne (Ne.symm u)]; exact this
theorem own_ix {j z : Int32} {n : Nat} (hj : j.toInt = n) (hz : j.toInt < z.toInt) : (¬ j < 0 ∧ j < z) ∧ j.toNatClampNeg = n ∧ n < z.toNatClampNeg := by
  have e0 : (0 : Int32).toInt = 0 := by decide
  refine ⟨⟨by rw [Int32.lt_iff_toInt_lt]; omega, by rw [Int32.lt_iff_toInt_lt]; exact hz⟩, ?_, ?_⟩
  · show Int.toNat _ = _; omega
  · show _ < Int.toNat _; omega
theorem own_cl {z : Int32} {j : Nat} (h : j < z.toNatClampNeg) : (j : Int) < z.toInt := by
  have e : z.toNatClampNeg = z.toInt.toNat := rfl
  omega
end OwnArf
end Jvm.RoadKit
namespace Jvm.Pilot.@@N@@
open Jvm Jvm.ClassFile Sem Op Lib Jvm.Free Jvm.Stand Jvm.LawKit Jvm.RoadKit Bundle Jvm.Pilot.@@N@@.Jvm.D
section
open Jvm.FP.Core
theorem own_zfin {a : UInt64} (ha : DFin a) (h0 : a.toNat < 2 ^ 63) : ∃ c q, val64 a = .fin false c q ∧ Jvm.FP.Core.fits b64 (.fin false c q) ∧ zval b64 (val64 a) = ((zmag b64 (.fin false c q) : Nat) : Int) := by
  obtain ⟨s, c, q, e⟩ := ha
  have hs : s = false := by
    have := sgn_bits (a := a) (by rw [e]; exact Datum.noConfusion)
    rw [e] at this
    have h2 : decide (2 ^ 63 ≤ a.toNat) = false := decide_eq_false (by omega)
    rw [h2] at this; exact this
  subst hs
  exact ⟨c, q, e, e ▸ val64_fits a, by rw [e]; rfl⟩
theorem own_divu {c d : Nat} {q r : Int} (x2 : Jvm.FP.Core.fits b64 (.fin false c q)) (y2 : Jvm.FP.Core.fits b64 (.fin false d r)) : inUnits c (q - r) (2 * b64.qmin - r) = zmag b64 (.fin false c q) * one64 ∧ 2 ^ (b64.qmin - (2 * b64.qmin - r)).toNat * d = zmag b64 (.fin false d r) := by
  have hx1 := x2.2.1
  have hy1 := y2.2.1
  have hq : b64.qmin < 0 := by decide
  constructor
  · rw [← pow_qmin64]
    show c * _ = c * _ * _
    rw [Nat.mul_assoc, ← Nat.pow_add]; congr 2; omega
  · show _ = d * _
    rw [Nat.mul_comm]; congr 2; omega
theorem own_div_pre {a b : UInt64} (ha : DFin a) (ha0 : a.toNat < 2 ^ 63) (hfb : DFin b) (hb0 : b.toNat < 2 ^ 63) (hbz : 0 < zval b64 (val64 b)) :
    ∃ c q d r, 0 < d ∧ Jvm.FP.Core.fits b64 (.fin false c q) ∧ Jvm.FP.Core.fits b64 (.fin false d r) ∧ zval b64 (val64 a) = ((zmag b64 (.fin false c q) : Nat) : Int) ∧ zval b64 (val64 b) = ((zmag b64 (.fin false d r) : Nat) : Int) ∧ val64 (ddiv a b) = roundRatio b64 false c d (q - r) := by
  obtain ⟨c, q, e1, f1, z1⟩ := own_zfin ha ha0
  obtain ⟨d, r, e2, f2, z2⟩ := own_zfin hfb hb0
  have hd0 : d ≠ 0 := by
    rintro rfl
    have h1 : zmag b64 (.fin false 0 r) = 0 := Nat.zero_mul _
    omega
  refine ⟨c, q, d, r, by omega, f1, f2, z1, z2, ?_⟩
  rw [val64_ddiv, e1, e2]
  simp [quotient, hd0]
theorem own_div_le {a b V : UInt64} (ha : DFin a) (ha0 : a.toNat < 2 ^ 63) (hfb : DFin b) (hb0 : b.toNat < 2 ^ 63) (hbz : 0 < zval b64 (val64 b)) (hV : val64 V ≠ .nan) (h0V : V.toNat < 2 ^ 63)
    (h : zval b64 (val64 a) * (one64 : Int) ≤ zval b64 (val64 V) * zval b64 (val64 b)) : zval b64 (val64 (ddiv a b)) ≤ zval b64 (val64 V) := by
  obtain ⟨c, q, d, r, hd, f1, f2, z1, z2, e⟩ := own_div_pre ha ha0 hfb hb0 hbz
  obtain ⟨u1, u2⟩ := own_divu f1 f2
  have hq : b64.qmin < 0 := by decide
  have hsV : sgn (val64 V) = false := by rw [sgn_bits hV]; exact decide_eq_false (by omega)
  have zV : zval b64 (val64 V) = ((zmag b64 (val64 V) : Nat) : Int) := by unfold zval; rw [hsV]; rfl
  have hx1 := f1.2.1
  have hy1 := f2.2.1
  have k := zmag_roundRatio_le good_b64 (s := false) (A := c) (B := d) (e := q - r) (e0 := 2 * b64.qmin - r) (V := val64 V) hd (val64_fits V) hV (by omega) (by omega) (by
    rw [u1, Nat.mul_assoc, u2]
    rw [z1, z2, zV] at h
    exact_mod_cast h)
  rw [e, zV]
  unfold zval
  rw [sgn_roundRatio]
  simpa [signed] using k
theorem own_div_ge {a b V : UInt64} (ha : DFin a) (ha0 : a.toNat < 2 ^ 63) (hfb : DFin b) (hb0 : b.toNat < 2 ^ 63) (hbz : 0 < zval b64 (val64 b)) (hV : val64 V ≠ .nan) (h0V : V.toNat < 2 ^ 63)
    (h : zval b64 (val64 V) * zval b64 (val64 b) ≤ zval b64 (val64 a) * (one64 : Int)) : zval b64 (val64 V) ≤ zval b64 (val64 (ddiv a b)) := by
  obtain ⟨c, q, d, r, hd, f1, f2, z1, z2, e⟩ := own_div_pre ha ha0 hfb hb0 hbz
  obtain ⟨u1, u2⟩ := own_divu f1 f2
  have hq : b64.qmin < 0 := by decide
  have hsV : sgn (val64 V) = false := by rw [sgn_bits hV]; exact decide_eq_false (by omega)
  have zV : zval b64 (val64 V) = ((zmag b64 (val64 V) : Nat) : Int) := by unfold zval; rw [hsV]; rfl
  have hx1 := f1.2.1
  have hy1 := f2.2.1
  have k := zmag_roundRatio_ge good_b64 (s := false) (A := c) (B := d) (e := q - r) (e0 := 2 * b64.qmin - r) (V := val64 V) hd (val64_fits V) (by omega) (by omega) (by
    rw [u1, Nat.mul_assoc, u2]
    rw [z1, z2, zV] at h
    exact_mod_cast h)
  rw [e, zV]
  unfold zval
  rw [sgn_roundRatio]
  simpa [signed] using k
end
section
open Jvm.FP.Core
/-- a double as a whole number of the least doubles -/
def own_z (x : UInt64) : Int := zval b64 (val64 x)
/-- finite and not negative -/
def own_Fn (x : UInt64) : Prop := DFin x ∧ x.toNat < 2 ^ 63
def own_O : Int := (one64 : Int)
theorem own_Opos : 0 < own_O := by unfold own_O; exact_mod_cast one64_pos
theorem own_Fn.nn {x : UInt64} (h : own_Fn x) : val64 x ≠ .nan := by
  obtain ⟨s, c, q, e⟩ := h.1
  rw [e]; exact Datum.noConfusion
theorem own_Fn.z0 {x : UInt64} (h : own_Fn x) : 0 ≤ own_z x := zval_nonneg h.nn h.2
theorem own_ac1 (a b : Int) : a * (2 * b) = b * (2 * a) := by ac_rfl
theorem own_ac2 (x m o : Int) : x * o * (m * o) = x * m * (o * o) := by ac_rfl
theorem own_near {a b V : UInt64} (ha : own_Fn a) (hb : own_Fn b) (hbz : 0 < own_z b) (hq : DFin (ddiv a b)) (hV : own_Fn V) :
    (own_z a * own_O - own_z (ddiv a b) * own_z b).natAbs ≤ (own_z a * own_O - own_z V * own_z b).natAbs := by
  obtain ⟨c, q, d, r, hd, f1, f2, z1, z2, e⟩ := own_div_pre ha.1 ha.2 hb.1 hb.2 hbz
  obtain ⟨u1, u2⟩ := own_divu f1 f2
  obtain ⟨c', q', e', f', z'⟩ := own_zfin hV.1 hV.2
  have hq0 : b64.qmin < 0 := by decide
  have hx1 := f1.2.1
  have hy1 := f2.2.1
  obtain ⟨t, cc, qq, eq⟩ := hq
  have er := e
  rw [eq] at er
  have hs : t = false := by
    have := sgn_roundRatio b64 false c d (q - r)
    rw [← er] at this; exact this
  subst hs
  have fq : Jvm.FP.Core.fits b64 (.fin false cc qq) := eq ▸ val64_fits (ddiv a b)
  have k := roundRatio_nearest good_b64 (e0 := 2 * b64.qmin - r) hd er.symm f'.1 f'.2.1 (by omega) (by omega)
  unfold distance at k
  rw [units_fin fq (by omega), units_fin f' (by omega), u1] at k
  have zq : own_z (ddiv a b) = ((zmag b64 (.fin false cc qq) : Nat) : Int) := by unfold own_z; rw [eq]; rfl
  have key : ∀ w : Nat, ((w * 2 ^ (b64.qmin - (2 * b64.qmin - r)).toNat : Nat) : Int) * (d : Int) = (w : Int) * own_z b := by
    intro w
    unfold own_z
    rw [z2, ← u2]
    push_cast
    rw [Int.mul_assoc]
  rw [key, key] at k
  have ea : own_z a * own_O = ((zmag b64 (.fin false c q) * one64 : Nat) : Int) := by
    unfold own_z own_O; rw [z1]; push_cast; rfl
  have ev : own_z V = ((zmag b64 (.fin false c' q') : Nat) : Int) := z'
  rw [ea, zq, ev]
  exact k
theorem own_arith {x y u v W V O : Int} (hy : 0 < y) (hv : 0 < v) (hO : 0 < O) (h : x * v < u * y) (n1 : (x * O - W * y).natAbs ≤ (x * O - V * y).natAbs) (n2 : (u * O - V * v).natAbs ≤ (u * O - W * v).natAbs) : W ≤ V := by
  refine Int.le_of_not_gt fun hWV => ?_
  have m1 : V * y < W * y := Int.mul_lt_mul_of_pos_right hWV hy
  have m2 : V * v < W * v := Int.mul_lt_mul_of_pos_right hWV hv
  have A1 : W * y + V * y ≤ 2 * (x * O) := by omega
  have A2 : 2 * (u * O) ≤ W * v + V * v := by omega
  have B1 : (W * y + V * y) * v ≤ 2 * (x * O) * v := Int.mul_le_mul_of_nonneg_right A1 (Int.le_of_lt hv)
  have B2 : 2 * (u * O) * y ≤ (W * v + V * v) * y := Int.mul_le_mul_of_nonneg_right A2 (Int.le_of_lt hy)
  have e1 : (W * y + V * y) * v = (W * v + V * v) * y := by
    rw [Int.add_mul, Int.add_mul]; congr 1 <;> ac_rfl
  have e2 : 2 * (x * O) * v = 2 * O * (x * v) := by ac_rfl
  have e3 : 2 * (u * O) * y = 2 * O * (u * y) := by ac_rfl
  rw [e2, e1] at B1
  rw [e3] at B2
  have B3 : 2 * O * (u * y) ≤ 2 * O * (x * v) := Int.le_trans B2 B1
  have := Int.le_of_mul_le_mul_left B3 (by omega)
  omega
theorem own_cancel {a1 a2 m n : Nat} (h : a1 * 2 ^ m = a2 * 2 ^ n) (hmn : m ≤ n) : a1 = a2 * 2 ^ (n - m) := by
  have e : 2 ^ n = 2 ^ (n - m) * 2 ^ m := by rw [← Nat.pow_add]; congr 1; omega
  rw [e, ← Nat.mul_assoc] at h
  exact Nat.eq_of_mul_eq_mul_right (Nat.two_pow_pos _) h
theorem own_div_eq {a b c d : UInt64} (ha : own_Fn a) (hb : own_Fn b) (hc : own_Fn c) (hd : own_Fn d) (hbz : 0 < own_z b) (hdz : 0 < own_z d) (h : own_z a * own_z d = own_z c * own_z b) : own_z (ddiv a b) = own_z (ddiv c d) := by
  obtain ⟨ca, qa, cb, qb, hb0, fa, fb, za, zb, e1⟩ := own_div_pre ha.1 ha.2 hb.1 hb.2 hbz
  obtain ⟨cc, qc, cd, qd, hd0, fc, fd, zc, zd, e2⟩ := own_div_pre hc.1 hc.2 hd.1 hd.2 hdz
  unfold own_z at h ⊢
  rw [e1, e2]
  rw [za, zb, zc, zd] at h
  have ha1 := fa.2.1
  have hb1 := fb.2.1
  have hc1 := fc.2.1
  have hd1 := fd.2.1
  rw [roundRatio_congr (A' := cc) (B' := cd) (e' := qc - qd) hb0 hd0]
  have h' : zmag b64 (.fin false ca qa) * zmag b64 (.fin false cd qd) = zmag b64 (.fin false cc qc) * zmag b64 (.fin false cb qb) := by exact_mod_cast h
  have h2 : ca * cd * 2 ^ ((qa - b64.qmin).toNat + (qd - b64.qmin).toNat) = cc * cb * 2 ^ ((qc - b64.qmin).toNat + (qb - b64.qmin).toNat) := by
    rw [Nat.pow_add, Nat.pow_add]
    have l : zmag b64 (.fin false ca qa) * zmag b64 (.fin false cd qd) = ca * 2 ^ (qa - b64.qmin).toNat * (cd * 2 ^ (qd - b64.qmin).toNat) := rfl
    have l2 : zmag b64 (.fin false cc qc) * zmag b64 (.fin false cb qb) = cc * 2 ^ (qc - b64.qmin).toNat * (cb * 2 ^ (qb - b64.qmin).toNat) := rfl
    rw [l, l2] at h'
    generalize 2 ^ (qa - b64.qmin).toNat = pa at *
    generalize 2 ^ (qb - b64.qmin).toNat = pb at *
    generalize 2 ^ (qc - b64.qmin).toNat = pc at *
    generalize 2 ^ (qd - b64.qmin).toNat = pd at *
    calc ca * cd * (pa * pd) = ca * pa * (cd * pd) := by ac_rfl
      _ = cc * pc * (cb * pb) := h'
      _ = cc * cb * (pc * pb) := by ac_rfl
  generalize hm : b64.qmin = mn at *
  by_cases hle : (qa - mn).toNat + (qd - mn).toNat ≤ (qc - mn).toNat + (qb - mn).toNat
  · have k := own_cancel h2 hle
    rw [show ((qa - qb) - (qc - qd)).toNat = 0 by omega, Nat.pow_zero, Nat.mul_one, k]
    congr 2; omega
  · have k := own_cancel h2.symm (by omega)
    rw [show ((qc - qd) - (qa - qb)).toNat = 0 by omega, Nat.pow_zero, Nat.mul_one, k]
    congr 2; omega
theorem own_zinf (s : Bool) : own_O + own_O < ((zmag b64 (.inf s) : Nat) : Int) := by cases s <;> (unfold own_O; decide +kernel)
theorem own_fin_of {x : UInt64} (hn : val64 x ≠ .nan) (hs : x.toNat < 2 ^ 63) (h : own_z x ≤ own_O + own_O) : own_Fn x := by
  refine ⟨?_, hs⟩
  have hsg : sgn (val64 x) = false := by rw [sgn_bits hn]; exact decide_eq_false (by omega)
  unfold own_z zval at h
  rw [hsg] at h
  match e : val64 x, hn with
  | .fin s c q, _ => exact ⟨s, c, q, e⟩
  | .inf s, _ =>
    rw [e] at h
    have := own_zinf s
    have h : ((zmag b64 (.inf s) : Nat) : Int) ≤ own_O + own_O := h
    omega
theorem own_div_sgn {a b : UInt64} (ha : own_Fn a) (hb : own_Fn b) (hbz : 0 < own_z b) : val64 (ddiv a b) ≠ .nan ∧ (ddiv a b).toNat < 2 ^ 63 := by
  obtain ⟨ca, qa, cb, qb, hb0, fa, fb, za, zb, e1⟩ := own_div_pre ha.1 ha.2 hb.1 hb.2 hbz
  have hn : val64 (ddiv a b) ≠ .nan := by rw [e1]; exact roundRatio_ne_nan _ _ _ _ _
  refine ⟨hn, ?_⟩
  have := sgn_bits hn
  rw [e1, sgn_roundRatio] at this
  have := of_decide_eq_false this.symm
  omega
theorem own_div_mono {a b c d : UInt64} (ha : own_Fn a) (hb : own_Fn b) (hc : own_Fn c) (hd : own_Fn d) (hbz : 0 < own_z b) (hdz : 0 < own_z d) (h : own_z a * own_z d ≤ own_z c * own_z b) (l1 : own_z (ddiv a b) ≤ own_O) (l2 : own_z (ddiv c d) ≤ own_O) : own_z (ddiv a b) ≤ own_z (ddiv c d) := by
  by_cases e : own_z a * own_z d = own_z c * own_z b
  · exact Int.le_of_eq (own_div_eq ha hb hc hd hbz hdz e)
  · have hO := own_Opos
    obtain ⟨n1, s1⟩ := own_div_sgn ha hb hbz
    obtain ⟨n2, s2⟩ := own_div_sgn hc hd hdz
    have F1 := own_fin_of n1 s1 (by omega)
    have F2 := own_fin_of n2 s2 (by omega)
    exact own_arith hbz hdz hO (by omega) (own_near ha hb hbz F1.1 F2) (own_near hc hd hdz F2.1 F1)
/-- twice a double -/
theorem own_dbl {b : UInt64} (hb : own_Fn b) (h : own_z b ≤ own_O) : ∃ V : UInt64, val64 V ≠ .nan ∧ own_z V = 2 * own_z b := by
  obtain ⟨c, q, e, f, z⟩ := own_zfin hb.1 hb.2
  have hq : q + 1 ≤ b64.qmax := by
    refine Int.le_of_not_gt fun hgt => ?_
    have h1 : q = b64.qmax := by have := f.2.2.1; omega
    have h2 : b64.tails ≤ c := by
      rcases f.2.2.2 with k | k
      · exact absurd (h1.symm.trans k) (by decide)
      · exact k
    have h3 : b64.tails * 2 ^ (b64.qmax - b64.qmin).toNat ≤ zmag b64 (.fin false c q) := by
      show _ ≤ c * 2 ^ (q - b64.qmin).toNat
      rw [h1]; exact Nat.mul_le_mul_right _ h2
    have h4 : own_O < ((b64.tails * 2 ^ (b64.qmax - b64.qmin).toNat : Nat) : Int) := by unfold own_O; decide +kernel
    have h5 : ((b64.tails * 2 ^ (b64.qmax - b64.qmin).toNat : Nat) : Int) ≤ own_z b := by unfold own_z; rw [z]; exact_mod_cast h3
    omega
  obtain ⟨c', q', e', u⟩ := round_exact good_b64 false (c := c) (q := q + 1) f.1 (by have := f.2.1; omega) hq
  refine ⟨of64 (round b64 (.fin false c (q + 1))), ?_, ?_⟩
  · rw [val64_of64 (round_fits good_b64 _), e']; exact Datum.noConfusion
  · unfold own_z
    rw [val64_of64 (round_fits good_b64 _), e', z]
    show ((inUnits c' q' b64.qmin : Nat) : Int) = 2 * ((inUnits c q b64.qmin : Nat) : Int)
    rw [u]
    unfold inUnits
    have := f.2.1
    rw [show (q + 1 - b64.qmin).toNat = (q - b64.qmin).toNat + 1 by omega, Nat.pow_succ]
    push_cast
    generalize ((2 : Int) ^ (q - b64.qmin).toNat) = w
    rw [← Int.mul_assoc, Int.mul_comm]
end
section
open Jvm.FP.Core
/-- a count, up to 2^33 -/
def own_n (a : Int64) : Prop := 0 ≤ a.toInt ∧ a.toInt < 8589934592
theorem own_nz {a : Int64} (h : own_n a) : own_Fn (FP.l2d a) ∧ own_z (FP.l2d a) = a.toInt * own_O := by
  have h0 := h.1
  have h1 := h.2
  refine ⟨⟨l2d_fin a, ?_⟩, DInt_zval (l2d_int (by omega))⟩
  have q := l2d_abs (a := a) (fun q => by
    rw [Int64.lt_iff_toInt_lt] at q; have e : (0 : Int64).toInt = 0 := by decide
    omega)
  have m := mask_toNat (l2d a)
  rw [q] at m
  show (l2d a).toNat < _
  rw [m]; exact Nat.mod_lt _ (by decide)
def own_C01 : UInt64 := 4576918229304087675
def own_C99 : UInt64 := 4607092346807469998
def own_C04 : UInt64 := 4600877379321698714
def own_C05 : UInt64 := 4602678819172646912
theorem own_z1 : own_z FP.dconst1 = own_O := by unfold own_z own_O; decide +kernel
theorem own_z0' : own_z FP.dconst0 = 0 := by unfold own_z; decide +kernel
theorem own_z05 : own_O = 2 * own_z own_C05 := by unfold own_z own_O; decide +kernel
theorem own_z2 : own_z 4611686018427387904 = own_O + own_O := by unfold own_z own_O; decide +kernel
theorem own_z33 : own_O = 8589934592 * own_z 4458563631096791040 := by unfold own_z own_O; decide +kernel
theorem own_zc1 : 0 < own_z own_C01 := by unfold own_z; decide +kernel
theorem own_zc2 : own_z own_C01 < own_z own_C05 := by unfold own_z; decide +kernel
theorem own_zc3 : own_z own_C05 < own_z own_C99 := by unfold own_z; decide +kernel
theorem own_zc4 : own_z own_C99 < own_O := by unfold own_z own_O; decide +kernel
theorem own_nn1 : val64 FP.dconst1 ≠ .nan := by decide +kernel
theorem own_nn01 : val64 own_C01 ≠ .nan := by decide +kernel
theorem own_nn99 : val64 own_C99 ≠ .nan := by decide +kernel
theorem own_nn04 : val64 own_C04 ≠ .nan := by decide +kernel
theorem own_nn05 : val64 own_C05 ≠ .nan := by decide +kernel
theorem own_cz {a b : UInt64} (na : val64 a ≠ .nan) (nb : val64 b ≠ .nan) (o : CmpOp) : cmpValue (FP.dcmp a b) o = if own_z a < own_z b then -1 else if own_z a = own_z b then 0 else 1 := by
  have e : FP.dcmp a b = some (compare (own_z a) (own_z b)) := dcmp_zval na nb
  rw [e]
  by_cases h1 : own_z a < own_z b
  · rw [if_pos h1, (compare_lt_iff _ _).mpr h1]; rfl
  · by_cases h2 : own_z a = own_z b
    · rw [if_neg h1, if_pos h2, (compare_eq_iff _ _).mpr h2]; rfl
    · rw [if_neg h1, if_neg h2, (compare_gt_iff _ _).mpr (by omega)]; rfl
theorem own_cz_lt {a b : UInt64} (na : val64 a ≠ .nan) (nb : val64 b ≠ .nan) (o : CmpOp) : cmpValue (FP.dcmp a b) o < 0 ↔ own_z a < own_z b := by
  rw [own_cz na nb]; split
  · rename_i h; simp [h]
  · rename_i h; split <;> simp [h]
theorem own_cz_gt {a b : UInt64} (na : val64 a ≠ .nan) (nb : val64 b ≠ .nan) (o : CmpOp) : (0 : Int32) < cmpValue (FP.dcmp a b) o ↔ own_z b < own_z a := by
  rw [own_cz na nb]; split
  · rename_i h; simp; omega
  · rename_i h; split
    · rename_i h2; simp; omega
    · rename_i h2; simp; omega
theorem own_cz_eq {a b : UInt64} (na : val64 a ≠ .nan) (nb : val64 b ≠ .nan) (o : CmpOp) : cmpValue (FP.dcmp a b) o = 0 ↔ own_z a = own_z b := by
  rw [own_cz na nb]; split
  · rename_i h; simp; omega
  · rename_i h; split
    · rename_i h2; simp [h2]
    · rename_i h2; simp [h2]
def own_mn (a x : UInt64) : UInt64 := Native.java_lang_Math.nans.pick64 false a x
def own_mx (a x : UInt64) : UInt64 := Native.java_lang_Math.nans.pick64 true a x
theorem own_mnz {a x : UInt64} (na : val64 a ≠ .nan) (nx : val64 x ≠ .nan) : (own_z x ≤ own_z a ∧ own_mn a x = x) ∨ (own_z a ≤ own_z x ∧ own_mn a x = a) := by
  have e : FP.dcmp a x = some (compare (own_z a) (own_z x)) := dcmp_zval na nx
  unfold own_mn Native.java_lang_Math.nans.pick64
  rw [e]
  rcases Int.lt_trichotomy (own_z a) (own_z x) with h | h | h
  · rw [(compare_lt_iff _ _).mpr h]; exact Or.inr ⟨by omega, rfl⟩
  · rw [(compare_eq_iff _ _).mpr h]
    by_cases c : ((a >>> 63 == 1) == false) = true
    · exact Or.inl ⟨by omega, by show (if ((a >>> 63 == 1) == false) = true then x else a) = x; exact if_pos c⟩
    · exact Or.inr ⟨by omega, by show (if ((a >>> 63 == 1) == false) = true then x else a) = a; exact if_neg c⟩
  · rw [(compare_gt_iff _ _).mpr h]; exact Or.inl ⟨by omega, rfl⟩
theorem own_mxz {a x : UInt64} (na : val64 a ≠ .nan) (nx : val64 x ≠ .nan) : (own_z a ≤ own_z x ∧ own_mx a x = x) ∨ (own_z x ≤ own_z a ∧ own_mx a x = a) := by
  have e : FP.dcmp a x = some (compare (own_z a) (own_z x)) := dcmp_zval na nx
  unfold own_mx Native.java_lang_Math.nans.pick64
  rw [e]
  rcases Int.lt_trichotomy (own_z a) (own_z x) with h | h | h
  · rw [(compare_lt_iff _ _).mpr h]; exact Or.inl ⟨by omega, rfl⟩
  · rw [(compare_eq_iff _ _).mpr h]
    by_cases c : ((a >>> 63 == 1) == true) = true
    · exact Or.inl ⟨by omega, by show (if ((a >>> 63 == 1) == true) = true then x else a) = x; exact if_pos c⟩
    · exact Or.inr ⟨by omega, by show (if ((a >>> 63 == 1) == true) = true then x else a) = a; exact if_neg c⟩
  · rw [(compare_gt_iff _ _).mpr h]; exact Or.inr ⟨by omega, rfl⟩
/-- the ratio, capped at 1 -/
def own_r (x n : Int64) : UInt64 := if n = 0 then FP.dconst0 else own_mn FP.dconst1 (FP.ddiv (FP.l2d x) (FP.l2d n))
theorem own_ti0 : (0 : Int64).toInt = 0 := by decide
theorem own_toi {n : Int64} : n = 0 ↔ n.toInt = 0 := by rw [← Int64.toInt_inj, own_ti0]
theorem own_Fn1 : own_Fn FP.dconst1 := ⟨by rw [show FP.dconst1 = FP.l2d 1 from by decide +kernel]; exact l2d_fin 1, by decide⟩
theorem own_Fn0 : own_Fn FP.dconst0 := ⟨by rw [show FP.dconst0 = FP.l2d 0 from by decide +kernel]; exact l2d_fin 0, by decide⟩
theorem own_npos {n : Int64} (hn : own_n n) (h : 0 < n.toInt) : 0 < own_z (FP.l2d n) := by
  rw [(own_nz hn).2]; exact Int.mul_pos h own_Opos
/-- the plain quotient -/
theorem own_q {x n : Int64} (hx : own_n x) (hn : own_n n) (h : 0 < n.toInt) : val64 (FP.ddiv (FP.l2d x) (FP.l2d n)) ≠ .nan ∧ (FP.ddiv (FP.l2d x) (FP.l2d n)).toNat < 2 ^ 63 ∧ 0 ≤ own_z (FP.ddiv (FP.l2d x) (FP.l2d n)) ∧ (own_z (FP.ddiv (FP.l2d x) (FP.l2d n)) ≤ 0 ↔ x.toInt = 0) ∧ (x.toInt ≤ n.toInt → own_z (FP.ddiv (FP.l2d x) (FP.l2d n)) ≤ own_O) ∧ (n.toInt ≤ x.toInt → own_O ≤ own_z (FP.ddiv (FP.l2d x) (FP.l2d n))) := by
  obtain ⟨fx, zx⟩ := own_nz hx
  obtain ⟨fn, zn⟩ := own_nz hn
  have pn := own_npos hn h
  obtain ⟨n1, s1⟩ := own_div_sgn fx fn pn
  have hO := own_Opos
  refine ⟨n1, s1, zval_nonneg n1 s1, ?_, ?_, ?_⟩
  · constructor
    · intro hz
      refine Classical.byContradiction fun hx0 => ?_
      have hx1 : 0 < x.toInt := by have := hx.1; omega
      have k := own_div_ge (V := 4458563631096791040) fx.1 fx.2 fn.1 fn.2 pn (by decide +kernel) (by decide) (by
        show own_z _ * own_z (FP.l2d n) ≤ own_z (FP.l2d x) * own_O
        rw [zx, zn, own_z33]
        have e33 := own_z33
        generalize own_z 4458563631096791040 = w at *
        have w0 : 0 < w := by omega
        have a1 : n.toInt ≤ 8589934592 * x.toInt := by have := hn.2; omega
        have b1 := Int.mul_le_mul_of_nonneg_right a1 (Int.le_of_lt (Int.mul_pos w0 (Int.mul_pos (show (0 : Int) < 8589934592 by decide) w0)))
        calc w * (n.toInt * (8589934592 * w)) = n.toInt * (w * (8589934592 * w)) := by ac_rfl
          _ ≤ 8589934592 * x.toInt * (w * (8589934592 * w)) := b1
          _ = x.toInt * (8589934592 * w) * (8589934592 * w) := by ac_rfl)
      have k : own_z 4458563631096791040 ≤ own_z (FP.ddiv (FP.l2d x) (FP.l2d n)) := k
      have := own_z33
      omega
    · intro hx0
      have k := own_div_le (V := FP.dconst0) fx.1 fx.2 fn.1 fn.2 pn (by decide +kernel) (by decide) (by
        show own_z (FP.l2d x) * own_O ≤ own_z FP.dconst0 * own_z (FP.l2d n)
        rw [zx, own_z0', hx0]; simp)
      have k : own_z (FP.ddiv (FP.l2d x) (FP.l2d n)) ≤ own_z FP.dconst0 := k
      rw [own_z0'] at k; exact k
  · intro hle
    have k := own_div_le (V := FP.dconst1) fx.1 fx.2 fn.1 fn.2 pn (by decide +kernel) (by decide) (by
      show own_z (FP.l2d x) * own_O ≤ own_z FP.dconst1 * own_z (FP.l2d n)
      rw [zx, zn, own_z1, Int.mul_comm own_O]
      exact Int.mul_le_mul_of_nonneg_right (Int.mul_le_mul_of_nonneg_right hle (Int.le_of_lt hO)) (Int.le_of_lt hO))
    have k : own_z (FP.ddiv (FP.l2d x) (FP.l2d n)) ≤ own_z FP.dconst1 := k
    rw [own_z1] at k; exact k
  · intro hle
    have k := own_div_ge (V := FP.dconst1) fx.1 fx.2 fn.1 fn.2 pn (by decide +kernel) (by decide) (by
      show own_z FP.dconst1 * own_z (FP.l2d n) ≤ own_z (FP.l2d x) * own_O
      rw [zx, zn, own_z1, Int.mul_comm own_O]
      exact Int.mul_le_mul_of_nonneg_right (Int.mul_le_mul_of_nonneg_right hle (Int.le_of_lt hO)) (Int.le_of_lt hO))
    have k : own_z FP.dconst1 ≤ own_z (FP.ddiv (FP.l2d x) (FP.l2d n)) := k
    rw [own_z1] at k; exact k
theorem own_rf {x n : Int64} (hx : own_n x) (hn : own_n n) : own_Fn (own_r x n) ∧ own_z (own_r x n) ≤ own_O ∧ (own_z (own_r x n) = 0 ↔ x.toInt = 0 ∨ n.toInt = 0) := by
  unfold own_r
  have hO := own_Opos
  by_cases h : n = 0
  · rw [if_pos h, own_z0']
    exact ⟨own_Fn0, by omega, ⟨fun _ => Or.inr (own_toi.mp h), fun _ => rfl⟩⟩
  · rw [if_neg h]
    have h0 : 0 < n.toInt := by have := hn.1; have := mt own_toi.mpr h; omega
    obtain ⟨q1, q2, q3, q4, q5, q6⟩ := own_q hx hn h0
    rcases own_mnz own_nn1 q1 with ⟨k, e⟩ | ⟨k, e⟩
    · rw [own_z1] at k
      rw [e]
      refine ⟨own_fin_of q1 q2 (by omega), by omega, ⟨fun z => Or.inl (q4.mp (by omega)), fun z => ?_⟩⟩
      have := q4.mpr (z.resolve_right (by omega))
      omega
    · rw [own_z1] at k
      rw [e, own_z1]
      refine ⟨own_Fn1, Int.le_refl _, ⟨fun z => by omega, fun z => ?_⟩⟩
      have := q4.mpr (z.resolve_right (by omega))
      omega
theorem own_r_cap {x n : Int64} (hx : own_n x) (hn : own_n n) (h0 : 0 < n.toInt) (h : n.toInt ≤ x.toInt) : own_z (own_r x n) = own_O := by
  unfold own_r
  rw [if_neg (fun z => by have := own_toi.mp z; omega)]
  obtain ⟨q1, q2, q3, q4, q5, q6⟩ := own_q hx hn h0
  rcases own_mnz own_nn1 q1 with ⟨k, e⟩ | ⟨k, e⟩
  · rw [own_z1] at k; rw [e]; have := q6 h; omega
  · rw [e, own_z1]
theorem own_r_un {x n : Int64} (hx : own_n x) (hn : own_n n) (h0 : 0 < n.toInt) (h : x.toInt ≤ n.toInt) : own_z (own_r x n) = own_z (FP.ddiv (FP.l2d x) (FP.l2d n)) := by
  unfold own_r
  rw [if_neg (fun z => by have := own_toi.mp z; omega)]
  obtain ⟨q1, q2, q3, q4, q5, q6⟩ := own_q hx hn h0
  rcases own_mnz own_nn1 q1 with ⟨k, e⟩ | ⟨k, e⟩
  · rw [e]
  · rw [e, own_z1]; rw [own_z1] at k; have := q5 h; omega
theorem own_r_mono {x n y m : Int64} (hx : own_n x) (hn : own_n n) (hy : own_n y) (hm : own_n m) (n0 : 0 < n.toInt) (m0 : 0 < m.toInt) (hxn : x.toInt ≤ n.toInt) (hym : y.toInt ≤ m.toInt) (h : x.toInt * m.toInt ≤ y.toInt * n.toInt) : own_z (own_r x n) ≤ own_z (own_r y m) := by
  rw [own_r_un hx hn n0 hxn, own_r_un hy hm m0 hym]
  refine own_div_mono (own_nz hx).1 (own_nz hn).1 (own_nz hy).1 (own_nz hm).1 (own_npos hn n0) (own_npos hm m0) ?_ ((own_q hx hn n0).2.2.2.2.1 hxn) ((own_q hy hm m0).2.2.2.2.1 hym)
  rw [(own_nz hx).2, (own_nz hn).2, (own_nz hy).2, (own_nz hm).2]
  have hO := own_Opos
  have k := Int.mul_le_mul_of_nonneg_right h (Int.le_of_lt (Int.mul_pos hO hO))
  rw [own_ac2, own_ac2]; exact k
end
section
open Jvm.FP.Core
theorem own_s_le {g b V : UInt64} (fg : own_Fn g) (fb : own_Fn b) (nV : val64 V ≠ .nan) (h : own_z g + own_z b ≤ own_z V) : own_z (FP.dadd g b) ≤ own_z V := by
  have s := sum_le good_b64 (x := val64 g) (y := val64 b) (V := val64 V) fg.1 fb.1 (val64_fits _) (val64_fits _) (val64_fits _) nV h
  rw [← val64_dadd] at s
  exact s
theorem own_s_ge {g b V : UInt64} (fg : own_Fn g) (fb : own_Fn b) (nV : val64 V ≠ .nan) (h : own_z V ≤ own_z g + own_z b) : own_z V ≤ own_z (FP.dadd g b) := by
  have s := sum_ge good_b64 (x := val64 g) (y := val64 b) (V := val64 V) fg.1 fb.1 (val64_fits _) (val64_fits _) (val64_fits _) nV h
  rw [← val64_dadd] at s
  exact s
theorem own_s_nn {g b : UInt64} (fg : own_Fn g) (fb : own_Fn b) : val64 (FP.dadd g b) ≠ .nan := (notNaN_iff _).mp (dadd_out ((notNaN_iff _).mpr fg.nn) fb.1)
theorem own_s_pos {x : UInt64} (hn : val64 x ≠ .nan) (h : 0 < own_z x) : x.toNat < 2 ^ 63 := by
  refine Classical.byContradiction fun q => ?_
  have := zval_nonpos hn (by omega)
  have h : 0 < zval b64 (val64 x) := h
  omega
/-- the sum of two ratios -/
theorem own_sum {g b : UInt64} (fg : own_Fn g) (fb : own_Fn b) (lg : own_z g ≤ own_O) (lb : own_z b ≤ own_O) :
    own_z g ≤ own_z (FP.dadd g b) ∧ own_z b ≤ own_z (FP.dadd g b) ∧ (own_z g = 0 → own_z (FP.dadd g b) ≤ own_z b) ∧ (own_z b = 0 → own_z (FP.dadd g b) ≤ own_z g) ∧ (own_z g ≤ own_z b → own_z (FP.dadd g b) ≤ 2 * own_z b) ∧ (own_z b ≤ own_z g → 2 * own_z b ≤ own_z (FP.dadd g b)) ∧ (0 < own_z (FP.dadd g b) → own_Fn (FP.dadd g b)) := by
  have g0 := fg.z0
  have b0 := fb.z0
  obtain ⟨V, nV, zV⟩ := own_dbl fb lb
  refine ⟨own_s_ge fg fb fg.nn (by omega), own_s_ge fg fb fb.nn (by omega), fun h => own_s_le fg fb fb.nn (by omega), fun h => own_s_le fg fb fg.nn (by omega), fun h => ?_, fun h => ?_, fun h => ?_⟩
  · rw [← zV]; exact own_s_le fg fb nV (by omega)
  · rw [← zV]; exact own_s_ge fg fb nV (by omega)
  · have nn := own_s_nn fg fb
    refine own_fin_of nn (own_s_pos nn h) ?_
    have := own_s_le (V := 4611686018427387904) fg fb (by decide +kernel) (by rw [own_z2]; omega)
    rw [own_z2] at this; exact this
/-- the quotient of one ratio by the sum -/
theorem own_quo {b t : UInt64} (fb : own_Fn b) (ft : own_Fn t) (t0 : 0 < own_z t) : val64 (FP.ddiv b t) ≠ .nan ∧ (own_z t ≤ 2 * own_z b → own_z own_C05 ≤ own_z (FP.ddiv b t)) ∧ (2 * own_z b ≤ own_z t → own_z (FP.ddiv b t) ≤ own_z own_C05) ∧ (own_z t ≤ own_z b → own_O ≤ own_z (FP.ddiv b t)) ∧ (own_z b = 0 → own_z (FP.ddiv b t) ≤ 0) := by
  have hO := own_Opos
  have h5 := own_z05
  have p5 : 0 < own_z own_C05 := by omega
  refine ⟨(own_div_sgn fb ft t0).1, fun h => ?_, fun h => ?_, fun h => ?_, fun h => ?_⟩
  · refine own_div_ge (V := own_C05) fb.1 fb.2 ft.1 ft.2 t0 own_nn05 (by decide) ?_
    show own_z own_C05 * own_z t ≤ own_z b * own_O
    rw [h5]
    have k := Int.mul_le_mul_of_nonneg_left h (Int.le_of_lt p5)
    calc own_z own_C05 * own_z t ≤ own_z own_C05 * (2 * own_z b) := k
      _ = own_z b * (2 * own_z own_C05) := own_ac1 _ _
  · refine own_div_le (V := own_C05) fb.1 fb.2 ft.1 ft.2 t0 own_nn05 (by decide) ?_
    show own_z b * own_O ≤ own_z own_C05 * own_z t
    rw [h5]
    have k := Int.mul_le_mul_of_nonneg_left h (Int.le_of_lt p5)
    calc own_z b * (2 * own_z own_C05) = own_z own_C05 * (2 * own_z b) := own_ac1 _ _
      _ ≤ own_z own_C05 * own_z t := k
  · rw [← own_z1]
    refine own_div_ge (V := FP.dconst1) fb.1 fb.2 ft.1 ft.2 t0 own_nn1 (by decide) ?_
    show own_z FP.dconst1 * own_z t ≤ own_z b * own_O
    rw [own_z1, Int.mul_comm]
    exact Int.mul_le_mul_of_nonneg_right h (Int.le_of_lt hO)
  · rw [← own_z0']
    refine own_div_le (V := FP.dconst0) fb.1 fb.2 ft.1 ft.2 t0 own_Fn0.nn (by decide) ?_
    show own_z b * own_O ≤ own_z FP.dconst0 * own_z t
    rw [own_z0', h]; simp
def own_cl (p : UInt64) : UInt64 := own_mx own_C01 (own_mn own_C99 p)
theorem own_clz {p : UInt64} (np : val64 p ≠ .nan) : val64 (own_cl p) ≠ .nan ∧ own_z own_C01 ≤ own_z (own_cl p) ∧ own_z (own_cl p) ≤ own_z own_C99 ∧ (own_O ≤ own_z p → own_z (own_cl p) = own_z own_C99) ∧ (own_z p ≤ 0 → own_z (own_cl p) = own_z own_C01) ∧ (own_z own_C05 ≤ own_z p → own_z own_C05 ≤ own_z (own_cl p)) ∧ (own_z p ≤ own_z own_C05 → own_z (own_cl p) ≤ own_z own_C05) := by
  have c1 := own_zc1
  have c2 := own_zc2
  have c3 := own_zc3
  have c4 := own_zc4
  unfold own_cl
  rcases own_mnz own_nn99 np with ⟨k, e⟩ | ⟨k, e⟩ <;> rw [e]
  · rcases own_mxz own_nn01 np with ⟨k2, e2⟩ | ⟨k2, e2⟩ <;> rw [e2]
    · exact ⟨np, by omega, by omega, fun _ => by omega, fun _ => by omega, fun _ => by omega, fun _ => by omega⟩
    · exact ⟨own_nn01, by omega, by omega, fun _ => by omega, fun _ => by omega, fun _ => by omega, fun _ => by omega⟩
  · rcases own_mxz own_nn01 own_nn99 with ⟨k2, e2⟩ | ⟨k2, e2⟩ <;> rw [e2]
    · exact ⟨own_nn99, by omega, by omega, fun _ => by omega, fun _ => by omega, fun _ => by omega, fun _ => by omega⟩
    · exact ⟨own_nn01, by omega, by omega, fun _ => by omega, fun _ => by omega, fun _ => by omega, fun _ => by omega⟩
/-- what wordProbability gives -/
def own_P (s h S H : Int64) : UInt64 :=
  if 2 * h + s < 5 then own_C04
  else if cmpValue (FP.dcmp (FP.dadd (own_r (2 * h) H) (own_r s S)) FP.dconst0) .l = 0 then own_C04
  else own_cl (FP.ddiv (own_r s S) (FP.dadd (own_r (2 * h) H) (own_r s S)))
/-- a count, up to 2^31 -/
def own_k (a : Int64) : Prop := 0 ≤ a.toInt ∧ a.toInt < 2147483648
theorem own_k.n {a : Int64} (h : own_k a) : own_n a := ⟨h.1, by have := h.2; omega⟩
theorem own_k2 {a : Int64} (h : own_k a) : (2 * a).toInt = 2 * a.toInt := by
  obtain ⟨h1, h2⟩ := h
  rw [Int64.toInt_mul, show (2 : Int64).toInt = 2 from by decide]; exact Int.bmod_eq_of_le (by omega) (by omega)
theorem own_k2n {a : Int64} (h : own_k a) : own_n (2 * a) := by have := own_k2 h; have := h.1; have := h.2; exact ⟨by omega, by omega⟩
theorem own_k3 {a s : Int64} (h : own_k a) (hs : own_k s) : (2 * a + s).toInt = 2 * a.toInt + s.toInt := by
  have e := own_k2 h
  obtain ⟨h1, h2⟩ := h
  obtain ⟨h3, h4⟩ := hs
  rw [Int64.toInt_add, e]; exact Int.bmod_eq_of_le (by omega) (by omega)
/-- the law's cases -/
theorem own_law {s h S H : Int64} (hs : own_k s) (hh : own_k h) (hS : own_k S) (hH : own_k H) :
    val64 (own_P s h S H) ≠ .nan ∧
    ((2 * h + s < 5 ∨ ((h = 0 ∨ H = 0) ∧ (s = 0 ∨ S = 0))) → own_z (own_P s h S H) = own_z own_C04) ∧
    (¬ 2 * h + s < 5 → (h = 0 ∨ H = 0) → ¬ (s = 0 ∨ S = 0) → own_z (own_P s h S H) = own_z own_C99) ∧
    (¬ 2 * h + s < 5 → ¬ (h = 0 ∨ H = 0) → (s = 0 ∨ S = 0) → own_z (own_P s h S H) = own_z own_C01) ∧
    (¬ 2 * h + s < 5 → ¬ (h = 0 ∨ H = 0) → ¬ (s = 0 ∨ S = 0) → own_z own_C01 ≤ own_z (own_P s h S H) ∧ own_z (own_P s h S H) ≤ own_z own_C99 ∧
      (own_z (own_r (2 * h) H) ≤ own_z (own_r s S) → own_z own_C05 ≤ own_z (own_P s h S H)) ∧
      (own_z (own_r s S) ≤ own_z (own_r (2 * h) H) → own_z (own_P s h S H) ≤ own_z own_C05)) := by
  obtain ⟨fb, lb, zb⟩ := own_rf hs.n hS.n
  obtain ⟨fg, lg, zg⟩ := own_rf (own_k2n hh) hH.n
  rw [own_k2 hh] at zg
  have zb' : own_z (own_r s S) = 0 ↔ s = 0 ∨ S = 0 := by rw [zb, own_toi, own_toi]
  have zg' : own_z (own_r (2 * h) H) = 0 ↔ h = 0 ∨ H = 0 := by
    rw [zg, own_toi, own_toi]
    constructor
    · rintro (q | q)
      · exact Or.inl (by omega)
      · exact Or.inr q
    · rintro (q | q)
      · exact Or.inl (by omega)
      · exact Or.inr q
  rw [← zb', ← zg']
  obtain ⟨s1, s2, s3, s4, s5, s6, s7⟩ := own_sum fg fb lg lb
  have nn := own_s_nn fg fb
  have hb0 := fb.z0
  have hg0 := fg.z0
  have cc := own_cz_eq nn own_Fn0.nn CmpOp.l
  rw [own_z0'] at cc
  unfold own_P
  generalize own_r s S = b at *
  generalize own_r (2 * h) H = g at *
  by_cases c1 : 2 * h + s < 5
  · rw [if_pos c1]
    exact ⟨own_nn04, fun _ => rfl, fun q => absurd c1 q, fun q => absurd c1 q, fun q => absurd c1 q⟩
  · rw [if_neg c1]
    by_cases c2 : own_z (FP.dadd g b) = 0
    · rw [if_pos (cc.mpr c2)]
      exact ⟨own_nn04, fun _ => rfl, fun _ q1 q2 => absurd (by omega : own_z b = 0) q2, fun _ q1 q2 => absurd (by omega : own_z g = 0) q1, fun _ q1 q2 => absurd (by omega : own_z g = 0) q1⟩
    · rw [if_neg (fun q => c2 (cc.mp q))]
      have t0 : 0 < own_z (FP.dadd g b) := by omega
      obtain ⟨p1, p2, p3, p4, p5⟩ := own_quo fb (s7 t0) t0
      obtain ⟨k1, k2, k3, k4, k5, k6, k7⟩ := own_clz p1
      refine ⟨k1, fun q => ?_, fun _ q1 q2 => k4 (p4 (s3 q1)), fun _ q1 q2 => k5 (p5 q2), fun _ q1 q2 => ⟨k2, k3, fun q => k6 (p2 (s5 q)), fun q => k7 (p3 (s6 q))⟩⟩
      rcases q with q | ⟨q1, q2⟩
      · exact absurd q c1
      · have := s3 q1; omega
/-- what the law's compare gives, in whole numbers -/
theorem own_cmp_gt {s h S H : Int64} (hs : own_k s) (hh : own_k h) (hS : own_k S) (hH : own_k H) (S0 : ¬ S = 0) (H0 : ¬ H = 0)
    (c : S.toInt ≤ s.toInt ∨ (2 * h.toInt < H.toInt ∧ s.toInt < S.toInt ∧ 2 * h.toInt * S.toInt ≤ s.toInt * H.toInt)) : own_z (own_r (2 * h) H) ≤ own_z (own_r s S) := by
  have s0 : 0 < S.toInt := by have := hS.1; have := mt own_toi.mpr S0; omega
  have h0 : 0 < H.toInt := by have := hH.1; have := mt own_toi.mpr H0; omega
  rcases c with c | ⟨c1, c2, c3⟩
  · rw [own_r_cap hs.n hS.n s0 c]; exact (own_rf (own_k2n hh) hH.n).2.1
  · exact own_r_mono (own_k2n hh) hH.n hs.n hS.n h0 s0 (by rw [own_k2 hh]; omega) (by omega) (by rw [own_k2 hh]; exact c3)
theorem own_cmp_lt {s h S H : Int64} (hs : own_k s) (hh : own_k h) (hS : own_k S) (hH : own_k H) (S0 : ¬ S = 0) (H0 : ¬ H = 0)
    (c : H.toInt ≤ 2 * h.toInt ∨ (2 * h.toInt < H.toInt ∧ s.toInt < S.toInt ∧ s.toInt * H.toInt ≤ 2 * h.toInt * S.toInt)) : own_z (own_r s S) ≤ own_z (own_r (2 * h) H) := by
  have s0 : 0 < S.toInt := by have := hS.1; have := mt own_toi.mpr S0; omega
  have h0 : 0 < H.toInt := by have := hH.1; have := mt own_toi.mpr H0; omega
  rcases c with c | ⟨c1, c2, c3⟩
  · rw [own_r_cap (own_k2n hh) hH.n h0 (by rw [own_k2 hh]; exact c)]; exact (own_rf hs.n hS.n).2.1
  · exact own_r_mono hs.n hS.n (own_k2n hh) hH.n s0 h0 (by omega) (by rw [own_k2 hh]; omega) (by rw [own_k2 hh]; exact c3)
end
section
open Jvm.FP.Core
theorem own_lcz {x : Int64} : lcmpW x 0 = 0 ↔ x = 0 := by rw [lcW]; exact lc_eq x 0
theorem own_lt {x y : Int64} : lcmpW x y < 0 ↔ x.toInt < y.toInt := by rw [lcW, lc_lt, Int64.lt_iff_toInt_lt]
theorem own_gt {x y : Int64} : (0 : Int32) < lcmpW x y ↔ y.toInt < x.toInt := by rw [lcW, lc_gt, Int64.lt_iff_toInt_lt]
theorem own_lt5 {x y : Int64} : lcmpW x y < 0 ↔ x < y := by rw [lcW, lc_lt]
theorem own_nlt {x : Int64} (h : own_k x) : ¬ lcmpW x 0 < 0 := fun q => by have := own_lt.mp q; have := h.1; rw [own_ti0] at *; omega
theorem own_ka (x : Int64) : own_k (x &&& 7) := by
  have e1 : (x &&& 7).toInt = x.toInt % 2 ^ 3 := Jvm.Kit.i64_mask x 7 (k := 3) (by decide) (by decide)
  constructor <;> omega
theorem own_kb (x : Int64) : own_k (x &&& 2147483647) := by
  have e1 : (x &&& 2147483647).toInt = x.toInt % 2 ^ 31 := Jvm.Kit.i64_mask x 2147483647 (k := 31) (by decide) (by decide)
  constructor <;> omega
def own_rd (d : UInt64) (n : Int64) : UInt64 := if n = 0 then FP.dconst0 else own_mn FP.dconst1 (FP.ddiv d (FP.l2d n))
theorem own_rd_r (x n : Int64) : own_rd (FP.l2d x) n = own_r x n := rfl
theorem own_no {x : UInt64} (h : val64 x ≠ .nan) : Jvm.Free.Fl.NoNaN64 x := Jvm.Free.Fl.noNaN64_no.mpr ((notNaN_iff _).mpr h)
theorem own_qnn {x n : Int64} (hx : own_n x) (hn : own_n n) (h : ¬ n = 0) : Jvm.Free.Fl.NoNaN64 (FP.ddiv (FP.l2d x) (FP.l2d n)) :=
  own_no (own_q hx hn (by have := hn.1; have := mt own_toi.mpr h; omega)).1
theorem own_b53 {a : Int64} (h : own_n a) : B53 a := ⟨by have := h.1; omega, by have := h.2; omega⟩
theorem own_l2 : FP.l2d 2 = (4611686018427387904 : UInt64) := by decide +kernel
theorem own_l5 : FP.l2d 5 = (4617315517961601024 : UInt64) := by decide +kernel
theorem own_m2h {a : Int64} (h : own_k a) : FP.dmul (4611686018427387904 : UInt64) (FP.l2d a) = FP.l2d (2 * a) := by
  rw [← own_l2]
  have h1 := h.1
  have h2 := h.2
  have e2 : (2 : Int64).toInt = 2 := by decide
  exact dmul_k (A := 2) (B := 2147483648) (by omega) (by omega) (by omega) (by omega) (by decide) (by decide) (by decide) (fun q => absurd q.1 (by decide)) (fun q => absurd q.2 (by decide))
theorem own_nnm {a : Int64} (h : own_k a) : Jvm.Free.Fl.NoNaN64 (FP.dmul (4611686018427387904 : UInt64) (FP.l2d a)) := nn_w (own_m2h h)
theorem own_add {a s : Int64} (h : own_k a) (hs : own_k s) : FP.dadd (FP.l2d (2 * a)) (FP.l2d s) = FP.l2d (2 * a + s) := dadd_w (own_b53 (own_k2n h)) (own_b53 hs.n)
theorem own_c5 {a s : Int64} (h : own_k a) (hs : own_k s) : cmpValue (FP.dcmp (FP.l2d (2 * a + s)) (4617315517961601024 : UInt64)) .g = lcmpW (2 * a + s) 5 := by
  rw [← own_l5]
  have e := own_k3 h hs
  have h1 := h.1
  have h2 := h.2
  have h3 := hs.1
  have h4 := hs.2
  exact dcmpV_w ⟨by omega, by omega⟩ ⟨by decide, by decide⟩ _
theorem own_nnd {g b : UInt64} (fg : own_Fn g) (fb : own_Fn b) : Jvm.Free.Fl.NoNaN64 (FP.dadd g b) := own_no (own_s_nn fg fb)
theorem own_nnq {g b : UInt64} (fg : own_Fn g) (fb : own_Fn b) (lg : own_z g ≤ own_O) (lb : own_z b ≤ own_O) (h : ¬ cmpValue (FP.dcmp (FP.dadd g b) FP.dconst0) .l = 0) : Jvm.Free.Fl.NoNaN64 (FP.ddiv b (FP.dadd g b)) := by
  obtain ⟨s1, s2, s3, s4, s5, s6, s7⟩ := own_sum fg fb lg lb
  have cc := own_cz_eq (own_s_nn fg fb) own_Fn0.nn CmpOp.l
  rw [own_z0'] at cc
  have hb0 := fb.z0
  have : ¬ own_z (FP.dadd g b) = 0 := fun z => h (cc.mpr z)
  have t0 : 0 < own_z (FP.dadd g b) := by omega
  exact own_no (own_quo fb (s7 t0) t0).1
theorem own_P1 {s h S H : Int64} (c : lcmpW (2 * h + s) 5 < 0) : own_P s h S H = (4600877379321698714 : UInt64) := if_pos (own_lt5.mp c)
theorem own_P2 {s h S H : Int64} (c : ¬ lcmpW (2 * h + s) 5 < 0) (d : cmpValue (FP.dcmp (FP.dadd (own_r (2 * h) H) (own_r s S)) FP.dconst0) .l = 0) : own_P s h S H = (4600877379321698714 : UInt64) := (if_neg (fun q => c (own_lt5.mpr q))).trans (if_pos d)
theorem own_P3 {s h S H : Int64} (c : ¬ lcmpW (2 * h + s) 5 < 0) (d : ¬ cmpValue (FP.dcmp (FP.dadd (own_r (2 * h) H) (own_r s S)) FP.dconst0) .l = 0) : own_P s h S H = own_mx (4576918229304087675 : UInt64) (own_mn (4607092346807469998 : UInt64) (FP.ddiv (own_r s S) (FP.dadd (own_r (2 * h) H) (own_r s S)))) := (if_neg (fun q => c (own_lt5.mpr q))).trans (if_neg d)
def own_m (a : Int64) : Prop := 0 ≤ a.toInt ∧ a.toInt < 4294967296
theorem own_pm {a b : Int64} (ha : own_m a) (hb : own_k b) : (a * b).toInt = a.toInt * b.toInt := by
  obtain ⟨a1, a2⟩ := ha
  obtain ⟨b1, b2⟩ := hb
  have h1 : a.toInt * b.toInt ≤ 4294967295 * 2147483647 := Int.mul_le_mul (by omega) (by omega) b1 (by decide)
  have h2 : 0 ≤ a.toInt * b.toInt := Int.mul_nonneg a1 b1
  rw [Int64.toInt_mul]
  generalize a.toInt * b.toInt = c at *
  exact Int.bmod_eq_of_le (by omega) (by omega)
theorem own_k.m {a : Int64} (h : own_k a) : own_m a := ⟨h.1, by have := h.2; omega⟩
theorem own_k2m {a : Int64} (h : own_k a) : own_m (2 * a) := by have := own_k2 h; have := h.1; have := h.2; exact ⟨by omega, by omega⟩
def own_C (bn bd gn gd : Int64) (z : Int32) : Prop :=
  ((0 : Int32) ≤ z → bd.toInt ≤ bn.toInt ∨ (gn.toInt < gd.toInt ∧ bn.toInt < bd.toInt ∧ gn.toInt * bd.toInt ≤ bn.toInt * gd.toInt)) ∧
  (z ≤ (0 : Int32) → gd.toInt ≤ gn.toInt ∨ (gn.toInt < gd.toInt ∧ bn.toInt < bd.toInt ∧ bn.toInt * gd.toInt ≤ gn.toInt * bd.toInt))
theorem own_CG {s h S H : Int64} {z : Int32} (c : own_C s S (2 * h) H z) (hs : own_k s) (hh : own_k h) (hS : own_k S) (hH : own_k H) (S0 : ¬ S = 0) (H0 : ¬ H = 0) (hz : (0 : Int32) ≤ z) : own_z (own_r (2 * h) H) ≤ own_z (own_r s S) := by
  have k := c.1 hz
  rw [own_k2 hh] at k
  exact own_cmp_gt hs hh hS hH S0 H0 k
theorem own_CL {s h S H : Int64} {z : Int32} (c : own_C s S (2 * h) H z) (hs : own_k s) (hh : own_k h) (hS : own_k S) (hH : own_k H) (S0 : ¬ S = 0) (H0 : ¬ H = 0) (hz : z ≤ (0 : Int32)) : own_z (own_r s S) ≤ own_z (own_r (2 * h) H) := by
  have k := c.2 hz
  rw [own_k2 hh] at k
  exact own_cmp_lt hs hh hS hH S0 H0 k
end
theorem own_nomn {a x : UInt64} (ha : Jvm.Free.Fl.NoNaN64 a) (hx : Jvm.Free.Fl.NoNaN64 x) : Jvm.Free.Fl.NoNaN64 (own_mn a x) := by
  have na := (Jvm.FP.Core.notNaN_iff _).mp (Jvm.Free.Fl.noNaN64_no.mp ha)
  have nx := (Jvm.FP.Core.notNaN_iff _).mp (Jvm.Free.Fl.noNaN64_no.mp hx)
  rcases own_mnz na nx with ⟨_, e⟩ | ⟨_, e⟩ <;> rw [e] <;> assumption
theorem d3_0 : decode prog_15_method_3_code 0 = .ok (.lload_n 2, 1) := by decide +kernel
theorem d3_1 : decode prog_15_method_3_code 1 = .ok (.lconst 0, 1) := by decide +kernel
theorem d3_2 : decode prog_15_method_3_code 2 = .ok (.lcmp, 1) := by decide +kernel
theorem d3_3 : decode prog_15_method_3_code 3 = .ok (.ifCond .ne 7, 3) := by decide +kernel
theorem d3_6 : decode prog_15_method_3_code 6 = .ok (.dconst 0, 1) := by decide +kernel
theorem d3_7 : decode prog_15_method_3_code 7 = .ok (.goto 11, 3) := by decide +kernel
theorem d3_10 : decode prog_15_method_3_code 10 = .ok (.dconst 1, 1) := by decide +kernel
theorem d3_11 : decode prog_15_method_3_code 11 = .ok (.dload_n 0, 1) := by decide +kernel
theorem d3_12 : decode prog_15_method_3_code 12 = .ok (.lload_n 2, 1) := by decide +kernel
theorem d3_13 : decode prog_15_method_3_code 13 = .ok (.l2d, 1) := by decide +kernel
theorem d3_14 : decode prog_15_method_3_code 14 = .ok (.ddiv, 1) := by decide +kernel
theorem d3_15 : decode prog_15_method_3_code 15 = .ok (.invokestatic 30, 3) := by decide +kernel
theorem d3_18 : decode prog_15_method_3_code 18 = .ok (.dreturn, 1) := by decide +kernel
theorem ef_3_0 (m : MethodId) (d0 : UInt64) (q1 : Int64) : entryFrame m #[(.double d0), (.long q1)] 4 = mkF m 0 #[.val (.double d0), .second, .val (.long q1), .second] [] := by first | (simp [entryFrame, mkF, argsToLocals, Value.category]; done) | rfl
theorem pn_com_example_word_odds_wordodds_odds_Odds : plainName "com/example/word_odds/wordodds/odds/Odds" = true := by first | (simp [plainName, overriddenIn]; done) | decide +kernel
def Q_rm3 (Z : State) (d0 : UInt64) (q1 : Int64)  (h0 : Heap) (n0 : Nat) (v : Option Value) (h : Heap) (L : List Loc) : Prop := v = some (.double (own_rd d0 q1)) ∧ Fr n0 L ∧ h = h0
theorem pd_0 : parseMethodDescriptor "(DD)D" = some ⟨[.double, .double], some .double⟩ := by decide +kernel
set_option maxRecDepth 65536 in
set_option maxHeartbeats 40000000 in
theorem rm3 (l : Launch) (Z : State) (a0 : Array Value) (hw : ∀ d ∈ tables_1, d.before a0 Z = true) (ws : List Jvm.Cond) (d0 : UInt64) (q1 : Int64)  (h0 : Heap) (n0 : Nat) (Z0 : n0 ≤ h0.size) (hn : ¬ q1 = 0 → Jvm.Free.Fl.NoNaN64 (FP.ddiv d0 (FP.l2d q1))) :
    MetFree l (⟨"com/example/word_odds/wordodds/odds/Odds", "ratio", "(DJ)D"⟩ : MethodName) (head1 (Jvm.Cond.code (⟨"com/example/word_odds/wordodds/odds/Odds", "ratio", "(DJ)D"⟩ : MethodName) prog_15_method_3_code 4 (some .double) :: ws) ({ frames := 1, cells := 0, slots := 0, locals := 40 } : Room)) (fun a U => a = #[(.double d0), (.long q1)] ∧ Z.Warmed39 U.vm ∧ U.heap = h0) (fun _ _ _ _ _ => True) (fun _ U o U' => ∃ v L, o = .returned v ∧ Q_rm3 Z d0 q1 h0 n0 v U'.heap L ∧ FrameEnd U o U' L ({ frames := 1, cells := 0, slots := 0, locals := 40 } : Room).cells ({ frames := 1, cells := 0, slots := 0, locals := 40 } : Room).slots) := by
  refine MetFree.of_bodySF (plainFor_of_name pn_com_example_word_odds_wordodds_odds_Odds) hisR ?_
  intro p e s m args below meth c s₁ Bd hml0 hP hK
  obtain ⟨rfl, hZ, hh⟩ := hP
  have hx := Bd.exec
  have hby := Bd.bytes
  have hlk := BodyLoose.notSynchronized Bd
  have hrt := Bd.returns
  have hml : c.maxLocals = 4 := hml0
  have hown : s.vm.findClass "com/example/word_odds/wordodds/odds/Odds" = some m.cls := findClass_of_methodNamed Bd.named
  have hnm := (name_of_methodNamed Bd.named Bd.method).1
  have X0 : Stand p l e ({ frames := 1, cells := 0, slots := 0, locals := 40 } : Room) s m #[(.double d0), (.long q1)] below meth c s₁ [] 0 0 := Stand.of_body Bd
  have e0 : s₁.heap = h0 := by rw [← hh, Bd.state]; rfl
  have N0 := Fr.nil n0
  have K0 : Keep h0 h0 [] := Keep.refl h0 _
  show Runs p e below (QE s (Q_rm3 Z d0 q1 h0 n0) ({ frames := 1, cells := 0, slots := 0, locals := 40 } : Room).cells ({ frames := 1, cells := 0, slots := 0, locals := 40 } : Room).slots) (s₁.setTop (entryFrame m #[(.double d0), (.long q1)] 4))
  rw [ef_3_0 m d0 q1]
  show Runs p e below _ (s₁.setTop (mkF m 0 #[.val (.double d0), .second, .val (.long q1), .second] []))
  refine Runs.by (fun _ hr => XS.lloadN X0.here hx rfl (hb hby d3_0) rfl  hr) ?_
  show Runs p e below _ (s₁.setTop (mkF m 1 #[.val (.double d0), .second, .val (.long q1), .second] [(.long q1)]))
  refine Runs.by (fun _ hr => XS.lconst X0.here hx rfl (hb hby d3_1) hr) ?_
  show Runs p e below _ (s₁.setTop (mkF m 2 #[.val (.double d0), .second, .val (.long q1), .second] [(.long (0 : Int64)), (.long q1)]))
  refine Runs.by (fun _ hr => XS.lcmp X0.here hx rfl (hb hby d3_2) rfl hr) ?_
  show Runs p e below _ (s₁.setTop (mkF m 3 #[.val (.double d0), .second, .val (.long q1), .second] [(.int (lcmpW q1 (0 : Int64)))]))
  by_cases hc3 : (lcmpW q1 (0 : Int64)) = (0 : Int32)
  · -- pc 3: (lcmpW q1 (0 : Int64)) = (0 : Int32)
    refine Runs.by (fun _ hr => XS.ifNo X0.here hx rfl (hb hby d3_3) rfl ((if0 _ _).trans (teq hc3).2) hr) ?_
    show Runs p e below _ (s₁.setTop (mkF m 6 #[.val (.double d0), .second, .val (.long q1), .second] []))
    refine Runs.by (fun _ hr => XS.dconst0 X0.here hx rfl (hb hby d3_6) rfl hr) ?_
    show Runs p e below _ (s₁.setTop (mkF m 7 #[.val (.double d0), .second, .val (.long q1), .second] [(.double FP.dconst0)]))
    refine Runs.by (fun _ hr => XS.goto X0.here hx rfl (pc0 := 7) (pc' := 18) rfl (hb hby d3_7) (by decide) (by decide) hr) ?_
    show Runs p e below _ (s₁.setTop (mkF m 18 #[.val (.double d0), .second, .val (.long q1), .second] [(.double FP.dconst0)]))
    refine Runs.ret X0 hx hrt hlk (Or.inr (Or.inr (Or.inl ⟨rfl, rfl, _, rfl⟩))) rfl (hb hby d3_18) (by decide) (by decide) ?_
    rw [e0]
    exact ⟨congrArg (fun z => some (Value.double z)) (Eq.symm (if_pos (own_lcz.mp hc3))), N0, rfl⟩
  · -- pc 3: not (lcmpW q1 (0 : Int64)) = (0 : Int32)
    refine Runs.by (fun _ hr => XS.ifYes X0.here hx rfl (pc0 := 3) (pc' := 10) rfl (hb hby d3_3) rfl ((if0 _ _).trans (feq hc3).2) (by decide) (by decide) hr) ?_
    show Runs p e below _ (s₁.setTop (mkF m 10 #[.val (.double d0), .second, .val (.long q1), .second] []))
    refine Runs.by (fun _ hr => XS.dconst1 X0.here hx rfl (hb hby d3_10) rfl hr) ?_
    show Runs p e below _ (s₁.setTop (mkF m 11 #[.val (.double d0), .second, .val (.long q1), .second] [(.double FP.dconst1)]))
    refine Runs.by (fun _ hr => XS.dloadN X0.here hx rfl (hb hby d3_11) rfl  hr) ?_
    show Runs p e below _ (s₁.setTop (mkF m 12 #[.val (.double d0), .second, .val (.long q1), .second] [(.double d0), (.double FP.dconst1)]))
    refine Runs.by (fun _ hr => XS.lloadN X0.here hx rfl (hb hby d3_12) rfl  hr) ?_
    show Runs p e below _ (s₁.setTop (mkF m 13 #[.val (.double d0), .second, .val (.long q1), .second] [(.long q1), (.double d0), (.double FP.dconst1)]))
    refine Runs.by (fun _ hr => XS.l2dS X0.here hx rfl (hb hby d3_13) rfl rfl hr) ?_
    show Runs p e below _ (s₁.setTop (mkF m 14 #[.val (.double d0), .second, .val (.long q1), .second] [(.double (FP.l2d q1)), (.double d0), (.double FP.dconst1)]))
    refine Runs.by (fun _ hr => XS.ddivS X0.here hx rfl (hb hby d3_14) rfl (hn (fun z => hc3 (own_lcz.mpr z))) rfl hr) ?_
    show Runs p e below _ (s₁.setTop (mkF m 15 #[.val (.double d0), .second, .val (.long q1), .second] [(.double (FP.ddiv d0 (FP.l2d q1))), (.double FP.dconst1)]))
    obtain ⟨T1, X1, e1, st1⟩ := natS X0 hx hZ (y := (⟨"java/lang/Math", "min", "(DD)D"⟩ : MethodName)) hown (hw _ (List.mem_of_getElem? (i := 14) rfl)) (hw _ (List.mem_of_getElem? (i := 15) rfl)) (hw _ (List.mem_of_getElem? (i := 16) rfl)) (hw _ (List.mem_of_getElem? (i := 17) rfl)) (by decide) e0 (W := 0) (F := fun a' => a' = #[(.double FP.dconst1), (.double (FP.ddiv d0 (FP.l2d q1)))] ∧ Jvm.Free.Fl.NoNaN64 FP.dconst1 ∧ Jvm.Free.Fl.NoNaN64 (FP.ddiv d0 (FP.l2d q1))) (fun c4 => Jvm.Free.Fl.Abs.minD_pays FP.dconst1 (FP.ddiv d0 (FP.l2d q1)) c4 (by decide) (by decide)) (g := (mkF m 15 #[.val (.double d0), .second, .val (.long q1), .second] [(.double (FP.ddiv d0 (FP.l2d q1))), (.double FP.dconst1)])) rfl (by rw [hml]; rfl) (argsL := [(.double FP.dconst1), (.double (FP.ddiv d0 (FP.l2d q1)))]) (rest := []) (lenOf pd_0 rfl) rfl (by show 2 * 0 + _ ≤ _; exact Nat.le_of_eq rfl) (hb hby d3_15) (by decide) (by decide) ⟨rfl, own_no own_nn1, hn (fun z => hc3 (own_lcz.mpr z))⟩ (val' := (.double (own_mn FP.dconst1 (FP.ddiv d0 (FP.l2d q1))))) rfl
    refine Runs.by st1 ?_
    show Runs p e below _ (T1.setTop (mkF m 18 #[.val (.double d0), .second, .val (.long q1), .second] [(.double (own_mn FP.dconst1 (FP.ddiv d0 (FP.l2d q1))))]))
    refine Runs.ret X1 hx hrt hlk (Or.inr (Or.inr (Or.inl ⟨rfl, rfl, _, rfl⟩))) rfl (hb hby d3_18) (by decide) (by decide) ?_
    rw [e1]
    exact ⟨congrArg (fun z => some (Value.double z)) (Eq.symm (if_neg (fun z => hc3 (own_lcz.mpr z)))), N0, rfl⟩
theorem d2_0 : decode prog_15_method_2_code 0 = .ok (.lload_n 0, 1) := by decide +kernel
theorem d2_1 : decode prog_15_method_2_code 1 = .ok (.lconst 0, 1) := by decide +kernel
theorem d2_2 : decode prog_15_method_2_code 2 = .ok (.lcmp, 1) := by decide +kernel
theorem d2_3 : decode prog_15_method_2_code 3 = .ok (.ifCond .lt 23, 3) := by decide +kernel
theorem d2_6 : decode prog_15_method_2_code 6 = .ok (.lload_n 2, 1) := by decide +kernel
theorem d2_7 : decode prog_15_method_2_code 7 = .ok (.lconst 0, 1) := by decide +kernel
theorem d2_8 : decode prog_15_method_2_code 8 = .ok (.lcmp, 1) := by decide +kernel
theorem d2_9 : decode prog_15_method_2_code 9 = .ok (.ifCond .lt 17, 3) := by decide +kernel
theorem d2_12 : decode prog_15_method_2_code 12 = .ok (.lload 4, 2) := by decide +kernel
theorem d2_14 : decode prog_15_method_2_code 14 = .ok (.lconst 0, 1) := by decide +kernel
theorem d2_15 : decode prog_15_method_2_code 15 = .ok (.lcmp, 1) := by decide +kernel
theorem d2_16 : decode prog_15_method_2_code 16 = .ok (.ifCond .lt 10, 3) := by decide +kernel
theorem d2_19 : decode prog_15_method_2_code 19 = .ok (.lload 6, 2) := by decide +kernel
theorem d2_21 : decode prog_15_method_2_code 21 = .ok (.lconst 0, 1) := by decide +kernel
theorem d2_22 : decode prog_15_method_2_code 22 = .ok (.lcmp, 1) := by decide +kernel
theorem d2_23 : decode prog_15_method_2_code 23 = .ok (.ifCond .ge 13, 3) := by decide +kernel
theorem d2_26 : decode prog_15_method_2_code 26 = .ok (.new 7, 3) := by decide +kernel
theorem d2_29 : decode prog_15_method_2_code 29 = .ok (.dup, 1) := by decide +kernel
theorem d2_30 : decode prog_15_method_2_code 30 = .ok (.ldc 9, 2) := by decide +kernel
theorem d2_32 : decode prog_15_method_2_code 32 = .ok (.invokespecial 11, 3) := by decide +kernel
theorem d2_35 : decode prog_15_method_2_code 35 = .ok (.athrow, 1) := by decide +kernel
theorem d2_36 : decode prog_15_method_2_code 36 = .ok (.ldc2_w 14, 3) := by decide +kernel
theorem d2_39 : decode prog_15_method_2_code 39 = .ok (.lload_n 2, 1) := by decide +kernel
theorem d2_40 : decode prog_15_method_2_code 40 = .ok (.l2d, 1) := by decide +kernel
theorem d2_41 : decode prog_15_method_2_code 41 = .ok (.dmul, 1) := by decide +kernel
theorem d2_42 : decode prog_15_method_2_code 42 = .ok (.dstore 8, 2) := by decide +kernel
theorem d2_44 : decode prog_15_method_2_code 44 = .ok (.lload_n 0, 1) := by decide +kernel
theorem d2_45 : decode prog_15_method_2_code 45 = .ok (.l2d, 1) := by decide +kernel
theorem d2_46 : decode prog_15_method_2_code 46 = .ok (.dstore 10, 2) := by decide +kernel
theorem d2_48 : decode prog_15_method_2_code 48 = .ok (.dload 8, 2) := by decide +kernel
theorem d2_50 : decode prog_15_method_2_code 50 = .ok (.lload 6, 2) := by decide +kernel
theorem d2_52 : decode prog_15_method_2_code 52 = .ok (.invokestatic 16, 3) := by decide +kernel
theorem d2_55 : decode prog_15_method_2_code 55 = .ok (.dstore 12, 2) := by decide +kernel
theorem d2_57 : decode prog_15_method_2_code 57 = .ok (.dload 10, 2) := by decide +kernel
theorem d2_59 : decode prog_15_method_2_code 59 = .ok (.lload 4, 2) := by decide +kernel
theorem d2_61 : decode prog_15_method_2_code 61 = .ok (.invokestatic 16, 3) := by decide +kernel
theorem d2_64 : decode prog_15_method_2_code 64 = .ok (.dstore 14, 2) := by decide +kernel
theorem d2_66 : decode prog_15_method_2_code 66 = .ok (.dload 8, 2) := by decide +kernel
theorem d2_68 : decode prog_15_method_2_code 68 = .ok (.dload 10, 2) := by decide +kernel
theorem d2_70 : decode prog_15_method_2_code 70 = .ok (.dadd, 1) := by decide +kernel
theorem d2_71 : decode prog_15_method_2_code 71 = .ok (.ldc2_w 22, 3) := by decide +kernel
theorem d2_74 : decode prog_15_method_2_code 74 = .ok (.dcmp .g, 1) := by decide +kernel
theorem d2_75 : decode prog_15_method_2_code 75 = .ok (.ifCond .lt 13, 3) := by decide +kernel
theorem d2_78 : decode prog_15_method_2_code 78 = .ok (.dload 12, 2) := by decide +kernel
theorem d2_80 : decode prog_15_method_2_code 80 = .ok (.dload 14, 2) := by decide +kernel
theorem d2_82 : decode prog_15_method_2_code 82 = .ok (.dadd, 1) := by decide +kernel
theorem d2_83 : decode prog_15_method_2_code 83 = .ok (.dconst 0, 1) := by decide +kernel
theorem d2_84 : decode prog_15_method_2_code 84 = .ok (.dcmp .l, 1) := by decide +kernel
theorem d2_85 : decode prog_15_method_2_code 85 = .ok (.ifCond .ne 11, 3) := by decide +kernel
theorem d2_88 : decode prog_15_method_2_code 88 = .ok (.ldc2_w 24, 3) := by decide +kernel
theorem d2_91 : decode prog_15_method_2_code 91 = .ok (.dstore 16, 2) := by decide +kernel
theorem d2_93 : decode prog_15_method_2_code 93 = .ok (.goto 29, 3) := by decide +kernel
theorem d2_96 : decode prog_15_method_2_code 96 = .ok (.dload 14, 2) := by decide +kernel
theorem d2_98 : decode prog_15_method_2_code 98 = .ok (.dload 12, 2) := by decide +kernel
theorem d2_100 : decode prog_15_method_2_code 100 = .ok (.dload 14, 2) := by decide +kernel
theorem d2_102 : decode prog_15_method_2_code 102 = .ok (.dadd, 1) := by decide +kernel
theorem d2_103 : decode prog_15_method_2_code 103 = .ok (.ddiv, 1) := by decide +kernel
theorem d2_104 : decode prog_15_method_2_code 104 = .ok (.dstore 16, 2) := by decide +kernel
theorem d2_106 : decode prog_15_method_2_code 106 = .ok (.ldc2_w 26, 3) := by decide +kernel
theorem d2_109 : decode prog_15_method_2_code 109 = .ok (.ldc2_w 28, 3) := by decide +kernel
theorem d2_112 : decode prog_15_method_2_code 112 = .ok (.dload 16, 2) := by decide +kernel
theorem d2_114 : decode prog_15_method_2_code 114 = .ok (.invokestatic 30, 3) := by decide +kernel
theorem d2_117 : decode prog_15_method_2_code 117 = .ok (.invokestatic 36, 3) := by decide +kernel
theorem d2_120 : decode prog_15_method_2_code 120 = .ok (.dstore 16, 2) := by decide +kernel
theorem d2_122 : decode prog_15_method_2_code 122 = .ok (.dload 16, 2) := by decide +kernel
theorem d2_124 : decode prog_15_method_2_code 124 = .ok (.dreturn, 1) := by decide +kernel
theorem ef_2_1 (m : MethodId) (q0 : Int64) (q1 : Int64) (q2 : Int64) (q3 : Int64) : entryFrame m #[(.long q0), (.long q1), (.long q2), (.long q3)] 18 = mkF m 0 #[.val (.long q0), .second, .val (.long q1), .second, .val (.long q2), .second, .val (.long q3), .second, .unset, .unset, .unset, .unset, .unset, .unset, .unset, .unset, .unset, .unset] [] := by first | (simp [entryFrame, mkF, argsToLocals, Value.category]; done) | rfl
def Q_rm2 (Z : State) (q0 : Int64) (q1 : Int64) (q2 : Int64) (q3 : Int64)  (h0 : Heap) (n0 : Nat) (v : Option Value) (h : Heap) (L : List Loc) : Prop := v = some (.double (own_P q0 q1 q2 q3)) ∧ Fr n0 L ∧ h = h0
theorem pd_1 : parseMethodDescriptor "(DJ)D" = some ⟨[.double, .long], some .double⟩ := by decide +kernel
set_option maxRecDepth 65536 in
set_option maxHeartbeats 40000000 in
theorem rm2 (l : Launch) (Z : State) (a0 : Array Value) (hw : ∀ d ∈ tables_1, d.before a0 Z = true) (ws : List Jvm.Cond) (q0 : Int64) (q1 : Int64) (q2 : Int64) (q3 : Int64)  (h0 : Heap) (n0 : Nat) (Z0 : n0 ≤ h0.size) (ks : own_k q0) (kh : own_k q1) (kS : own_k q2) (kH : own_k q3) :
    MetFree l (⟨"com/example/word_odds/wordodds/odds/Odds", "wordProbability", "(JJJJ)D"⟩ : MethodName) (head1 (Jvm.Cond.code (⟨"com/example/word_odds/wordodds/odds/Odds", "wordProbability", "(JJJJ)D"⟩ : MethodName) prog_15_method_2_code 18 (some .double) :: ws) ({ frames := 2, cells := 0, slots := 0, locals := 100 } : Room)) (fun a U => a = #[(.long q0), (.long q1), (.long q2), (.long q3)] ∧ Z.Warmed39 U.vm ∧ U.heap = h0) (fun _ _ _ _ _ => True) (fun _ U o U' => ∃ v L, o = .returned v ∧ Q_rm2 Z q0 q1 q2 q3 h0 n0 v U'.heap L ∧ FrameEnd U o U' L ({ frames := 2, cells := 0, slots := 0, locals := 100 } : Room).cells ({ frames := 2, cells := 0, slots := 0, locals := 100 } : Room).slots) := by
  refine MetFree.of_bodySF (plainFor_of_name pn_com_example_word_odds_wordodds_odds_Odds) hisR ?_
  intro p e s m args below meth c s₁ Bd hml0 hP hK
  obtain ⟨rfl, hZ, hh⟩ := hP
  have hx := Bd.exec
  have hby := Bd.bytes
  have hlk := BodyLoose.notSynchronized Bd
  have hrt := Bd.returns
  have hml : c.maxLocals = 18 := hml0
  have hown : s.vm.findClass "com/example/word_odds/wordodds/odds/Odds" = some m.cls := findClass_of_methodNamed Bd.named
  have hnm := (name_of_methodNamed Bd.named Bd.method).1
  have X0 : Stand p l e ({ frames := 2, cells := 0, slots := 0, locals := 100 } : Room) s m #[(.long q0), (.long q1), (.long q2), (.long q3)] below meth c s₁ [] 0 0 := Stand.of_body Bd
  have e0 : s₁.heap = h0 := by rw [← hh, Bd.state]; rfl
  have N0 := Fr.nil n0
  have K0 : Keep h0 h0 [] := Keep.refl h0 _
  show Runs p e below (QE s (Q_rm2 Z q0 q1 q2 q3 h0 n0) ({ frames := 2, cells := 0, slots := 0, locals := 100 } : Room).cells ({ frames := 2, cells := 0, slots := 0, locals := 100 } : Room).slots) (s₁.setTop (entryFrame m #[(.long q0), (.long q1), (.long q2), (.long q3)] 18))
  rw [ef_2_1 m q0 q1 q2 q3]
  obtain ⟨fb, lb, zb⟩ := own_rf ks.n kS.n
  obtain ⟨fg, lg, zg⟩ := own_rf (own_k2n kh) kH.n
  show Runs p e below _ (s₁.setTop (mkF m 0 #[.val (.long q0), .second, .val (.long q1), .second, .val (.long q2), .second, .val (.long q3), .second, .unset, .unset, .unset, .unset, .unset, .unset, .unset, .unset, .unset, .unset] []))
  refine Runs.by (fun _ hr => XS.lloadN X0.here hx rfl (hb hby d2_0) rfl  hr) ?_
  show Runs p e below _ (s₁.setTop (mkF m 1 #[.val (.long q0), .second, .val (.long q1), .second, .val (.long q2), .second, .val (.long q3), .second, .unset, .unset, .unset, .unset, .unset, .unset, .unset, .unset, .unset, .unset] [(.long q0)]))
  refine Runs.by (fun _ hr => XS.lconst X0.here hx rfl (hb hby d2_1) hr) ?_
  show Runs p e below _ (s₁.setTop (mkF m 2 #[.val (.long q0), .second, .val (.long q1), .second, .val (.long q2), .second, .val (.long q3), .second, .unset, .unset, .unset, .unset, .unset, .unset, .unset, .unset, .unset, .unset] [(.long (0 : Int64)), (.long q0)]))
  refine Runs.by (fun _ hr => XS.lcmp X0.here hx rfl (hb hby d2_2) rfl hr) ?_
  show Runs p e below _ (s₁.setTop (mkF m 3 #[.val (.long q0), .second, .val (.long q1), .second, .val (.long q2), .second, .val (.long q3), .second, .unset, .unset, .unset, .unset, .unset, .unset, .unset, .unset, .unset, .unset] [(.int (lcmpW q0 (0 : Int64)))]))
  have hc3 : ¬ ((lcmpW q0 (0 : Int64)) < (0 : Int32)) := (own_nlt ks)
  refine Runs.by (fun _ hr => XS.ifNo X0.here hx rfl (hb hby d2_3) rfl ((if0 _ _).trans (flt hc3).1) hr) ?_
  show Runs p e below _ (s₁.setTop (mkF m 6 #[.val (.long q0), .second, .val (.long q1), .second, .val (.long q2), .second, .val (.long q3), .second, .unset, .unset, .unset, .unset, .unset, .unset, .unset, .unset, .unset, .unset] []))
  refine Runs.by (fun _ hr => XS.lloadN X0.here hx rfl (hb hby d2_6) rfl  hr) ?_
  show Runs p e below _ (s₁.setTop (mkF m 7 #[.val (.long q0), .second, .val (.long q1), .second, .val (.long q2), .second, .val (.long q3), .second, .unset, .unset, .unset, .unset, .unset, .unset, .unset, .unset, .unset, .unset] [(.long q1)]))
  refine Runs.by (fun _ hr => XS.lconst X0.here hx rfl (hb hby d2_7) hr) ?_
  show Runs p e below _ (s₁.setTop (mkF m 8 #[.val (.long q0), .second, .val (.long q1), .second, .val (.long q2), .second, .val (.long q3), .second, .unset, .unset, .unset, .unset, .unset, .unset, .unset, .unset, .unset, .unset] [(.long (0 : Int64)), (.long q1)]))
  refine Runs.by (fun _ hr => XS.lcmp X0.here hx rfl (hb hby d2_8) rfl hr) ?_
  show Runs p e below _ (s₁.setTop (mkF m 9 #[.val (.long q0), .second, .val (.long q1), .second, .val (.long q2), .second, .val (.long q3), .second, .unset, .unset, .unset, .unset, .unset, .unset, .unset, .unset, .unset, .unset] [(.int (lcmpW q1 (0 : Int64)))]))
  have hc9 : ¬ ((lcmpW q1 (0 : Int64)) < (0 : Int32)) := (own_nlt kh)
  refine Runs.by (fun _ hr => XS.ifNo X0.here hx rfl (hb hby d2_9) rfl ((if0 _ _).trans (flt hc9).1) hr) ?_
  show Runs p e below _ (s₁.setTop (mkF m 12 #[.val (.long q0), .second, .val (.long q1), .second, .val (.long q2), .second, .val (.long q3), .second, .unset, .unset, .unset, .unset, .unset, .unset, .unset, .unset, .unset, .unset] []))
  refine Runs.by (fun _ hr => XS.lload X0.here hx rfl (hb hby d2_12) rfl  hr) ?_
  show Runs p e below _ (s₁.setTop (mkF m 14 #[.val (.long q0), .second, .val (.long q1), .second, .val (.long q2), .second, .val (.long q3), .second, .unset, .unset, .unset, .unset, .unset, .unset, .unset, .unset, .unset, .unset] [(.long q2)]))
  refine Runs.by (fun _ hr => XS.lconst X0.here hx rfl (hb hby d2_14) hr) ?_
  show Runs p e below _ (s₁.setTop (mkF m 15 #[.val (.long q0), .second, .val (.long q1), .second, .val (.long q2), .second, .val (.long q3), .second, .unset, .unset, .unset, .unset, .unset, .unset, .unset, .unset, .unset, .unset] [(.long (0 : Int64)), (.long q2)]))
  refine Runs.by (fun _ hr => XS.lcmp X0.here hx rfl (hb hby d2_15) rfl hr) ?_
  show Runs p e below _ (s₁.setTop (mkF m 16 #[.val (.long q0), .second, .val (.long q1), .second, .val (.long q2), .second, .val (.long q3), .second, .unset, .unset, .unset, .unset, .unset, .unset, .unset, .unset, .unset, .unset] [(.int (lcmpW q2 (0 : Int64)))]))
  have hc16 : ¬ ((lcmpW q2 (0 : Int64)) < (0 : Int32)) := (own_nlt kS)
  refine Runs.by (fun _ hr => XS.ifNo X0.here hx rfl (hb hby d2_16) rfl ((if0 _ _).trans (flt hc16).1) hr) ?_
  show Runs p e below _ (s₁.setTop (mkF m 19 #[.val (.long q0), .second, .val (.long q1), .second, .val (.long q2), .second, .val (.long q3), .second, .unset, .unset, .unset, .unset, .unset, .unset, .unset, .unset, .unset, .unset] []))
  refine Runs.by (fun _ hr => XS.lload X0.here hx rfl (hb hby d2_19) rfl  hr) ?_
  show Runs p e below _ (s₁.setTop (mkF m 21 #[.val (.long q0), .second, .val (.long q1), .second, .val (.long q2), .second, .val (.long q3), .second, .unset, .unset, .unset, .unset, .unset, .unset, .unset, .unset, .unset, .unset] [(.long q3)]))
  refine Runs.by (fun _ hr => XS.lconst X0.here hx rfl (hb hby d2_21) hr) ?_
  show Runs p e below _ (s₁.setTop (mkF m 22 #[.val (.long q0), .second, .val (.long q1), .second, .val (.long q2), .second, .val (.long q3), .second, .unset, .unset, .unset, .unset, .unset, .unset, .unset, .unset, .unset, .unset] [(.long (0 : Int64)), (.long q3)]))
  refine Runs.by (fun _ hr => XS.lcmp X0.here hx rfl (hb hby d2_22) rfl hr) ?_
  show Runs p e below _ (s₁.setTop (mkF m 23 #[.val (.long q0), .second, .val (.long q1), .second, .val (.long q2), .second, .val (.long q3), .second, .unset, .unset, .unset, .unset, .unset, .unset, .unset, .unset, .unset, .unset] [(.int (lcmpW q3 (0 : Int64)))]))
  have hc23 : ¬ ((lcmpW q3 (0 : Int64)) < (0 : Int32)) := (own_nlt kH)
  refine Runs.by (fun _ hr => XS.ifYes X0.here hx rfl (pc0 := 23) (pc' := 36) rfl (hb hby d2_23) rfl ((if0 _ _).trans (flt hc23).2.1) (by decide) (by decide) hr) ?_
  show Runs p e below _ (s₁.setTop (mkF m 36 #[.val (.long q0), .second, .val (.long q1), .second, .val (.long q2), .second, .val (.long q3), .second, .unset, .unset, .unset, .unset, .unset, .unset, .unset, .unset, .unset, .unset] []))
  refine Runs.by (fun t hr => X0.ldc2DoubleC hx hown (mvT hZ (hw _ (List.mem_of_getElem? (i := 10) rfl))) (g := (mkF m 36 #[.val (.long q0), .second, .val (.long q1), .second, .val (.long q2), .second, .val (.long q3), .second, .unset, .unset, .unset, .unset, .unset, .unset, .unset, .unset, .unset, .unset] [])) rfl (hb hby d2_36) t hr) ?_
  show Runs p e below _ (s₁.setTop (mkF m 39 #[.val (.long q0), .second, .val (.long q1), .second, .val (.long q2), .second, .val (.long q3), .second, .unset, .unset, .unset, .unset, .unset, .unset, .unset, .unset, .unset, .unset] [(.double (4611686018427387904 : UInt64))]))
  refine Runs.by (fun _ hr => XS.lloadN X0.here hx rfl (hb hby d2_39) rfl  hr) ?_
  show Runs p e below _ (s₁.setTop (mkF m 40 #[.val (.long q0), .second, .val (.long q1), .second, .val (.long q2), .second, .val (.long q3), .second, .unset, .unset, .unset, .unset, .unset, .unset, .unset, .unset, .unset, .unset] [(.long q1), (.double (4611686018427387904 : UInt64))]))
  refine Runs.by (fun _ hr => XS.l2dS X0.here hx rfl (hb hby d2_40) rfl rfl hr) ?_
  show Runs p e below _ (s₁.setTop (mkF m 41 #[.val (.long q0), .second, .val (.long q1), .second, .val (.long q2), .second, .val (.long q3), .second, .unset, .unset, .unset, .unset, .unset, .unset, .unset, .unset, .unset, .unset] [(.double (FP.l2d q1)), (.double (4611686018427387904 : UInt64))]))
  refine Runs.by (fun _ hr => XS.dmulS X0.here hx rfl (hb hby d2_41) rfl (own_nnm kh) rfl hr) ?_
  show Runs p e below _ (s₁.setTop (mkF m 42 #[.val (.long q0), .second, .val (.long q1), .second, .val (.long q2), .second, .val (.long q3), .second, .unset, .unset, .unset, .unset, .unset, .unset, .unset, .unset, .unset, .unset] [(.double (FP.dmul (4611686018427387904 : UInt64) (FP.l2d q1)))]))
  rw [own_m2h kh]
  show Runs p e below _ (s₁.setTop (mkF m 42 #[.val (.long q0), .second, .val (.long q1), .second, .val (.long q2), .second, .val (.long q3), .second, .unset, .unset, .unset, .unset, .unset, .unset, .unset, .unset, .unset, .unset] [(.double (FP.l2d ((2 : Int64) * q1)))]))
  refine Runs.by (fun _ hr => XS.dstore X0.here hx rfl (hb hby d2_42) rfl (l' := #[.val (.long q0), .second, .val (.long q1), .second, .val (.long q2), .second, .val (.long q3), .second, .val (.double (FP.l2d ((2 : Int64) * q1))), .second, .unset, .unset, .unset, .unset, .unset, .unset, .unset, .unset]) rfl hr) ?_
  show Runs p e below _ (s₁.setTop (mkF m 44 #[.val (.long q0), .second, .val (.long q1), .second, .val (.long q2), .second, .val (.long q3), .second, .val (.double (FP.l2d ((2 : Int64) * q1))), .second, .unset, .unset, .unset, .unset, .unset, .unset, .unset, .unset] []))
  refine Runs.by (fun _ hr => XS.lloadN X0.here hx rfl (hb hby d2_44) rfl  hr) ?_
  show Runs p e below _ (s₁.setTop (mkF m 45 #[.val (.long q0), .second, .val (.long q1), .second, .val (.long q2), .second, .val (.long q3), .second, .val (.double (FP.l2d ((2 : Int64) * q1))), .second, .unset, .unset, .unset, .unset, .unset, .unset, .unset, .unset] [(.long q0)]))
  refine Runs.by (fun _ hr => XS.l2dS X0.here hx rfl (hb hby d2_45) rfl rfl hr) ?_
  show Runs p e below _ (s₁.setTop (mkF m 46 #[.val (.long q0), .second, .val (.long q1), .second, .val (.long q2), .second, .val (.long q3), .second, .val (.double (FP.l2d ((2 : Int64) * q1))), .second, .unset, .unset, .unset, .unset, .unset, .unset, .unset, .unset] [(.double (FP.l2d q0))]))
  refine Runs.by (fun _ hr => XS.dstore X0.here hx rfl (hb hby d2_46) rfl (l' := #[.val (.long q0), .second, .val (.long q1), .second, .val (.long q2), .second, .val (.long q3), .second, .val (.double (FP.l2d ((2 : Int64) * q1))), .second, .val (.double (FP.l2d q0)), .second, .unset, .unset, .unset, .unset, .unset, .unset]) rfl hr) ?_
  show Runs p e below _ (s₁.setTop (mkF m 48 #[.val (.long q0), .second, .val (.long q1), .second, .val (.long q2), .second, .val (.long q3), .second, .val (.double (FP.l2d ((2 : Int64) * q1))), .second, .val (.double (FP.l2d q0)), .second, .unset, .unset, .unset, .unset, .unset, .unset] []))
  refine Runs.by (fun _ hr => XS.dload X0.here hx rfl (hb hby d2_48) rfl  hr) ?_
  show Runs p e below _ (s₁.setTop (mkF m 50 #[.val (.long q0), .second, .val (.long q1), .second, .val (.long q2), .second, .val (.long q3), .second, .val (.double (FP.l2d ((2 : Int64) * q1))), .second, .val (.double (FP.l2d q0)), .second, .unset, .unset, .unset, .unset, .unset, .unset] [(.double (FP.l2d ((2 : Int64) * q1)))]))
  refine Runs.by (fun _ hr => XS.lload X0.here hx rfl (hb hby d2_50) rfl  hr) ?_
  show Runs p e below _ (s₁.setTop (mkF m 52 #[.val (.long q0), .second, .val (.long q1), .second, .val (.long q2), .second, .val (.long q3), .second, .val (.double (FP.l2d ((2 : Int64) * q1))), .second, .val (.double (FP.l2d q0)), .second, .unset, .unset, .unset, .unset, .unset, .unset] [(.long q3), (.double (FP.l2d ((2 : Int64) * q1)))]))
  obtain ⟨_, _, ⟨T1, L1, k1, n1⟩, -, X1, ⟨Lc1, hQ1, l1, y1, z1⟩, st1⟩ := Jvm.LawKit.callS X0 hx (y := (⟨"com/example/word_odds/wordodds/odds/Odds", "ratio", "(DJ)D"⟩ : MethodName)) hown (mvT hZ (hw _ (List.mem_of_getElem? (i := 11) rfl))) (mvT hZ (hw _ (List.mem_of_getElem? (i := 12) rfl))) (mvT hZ (hw _ (List.mem_of_getElem? (i := 8) rfl))) (mvT hZ (hw _ (List.mem_of_getElem? (i := 13) rfl))) (by decide) (backOf (W := 0) (rm3 l Z a0 hw [] (FP.l2d ((2 : Int64) * q1)) q3  h0 n0 (Nat.le_trans Z0 K0.1) (fun z => own_qnn (own_k2n kh) kH.n z)) hZ (hw _ (List.mem_of_getElem? (i := 13) rfl)) (hw _ (List.mem_of_getElem? (i := 8) rfl)) (by decide) (by decide)) (g := (mkF m 52 #[.val (.long q0), .second, .val (.long q1), .second, .val (.long q2), .second, .val (.long q3), .second, .val (.double (FP.l2d ((2 : Int64) * q1))), .second, .val (.double (FP.l2d q0)), .second, .unset, .unset, .unset, .unset, .unset, .unset] [(.long q3), (.double (FP.l2d ((2 : Int64) * q1)))])) rfl (by rw [hml]; rfl) (argsL := [(.double (FP.l2d ((2 : Int64) * q1))), (.long q3)]) (rest := []) (lenOf pd_1 rfl) rfl (by show 2 * 0 + _ ≤ _; exact Nat.le_of_eq rfl) (hb hby d2_52) (fun _ _ => ⟨rfl, e0, (by decide : 0 + 0 ≤ _), (by decide : 0 + 0 ≤ _)⟩)
  dsimp only [Pt.U, Pt.locs, Pt.cells, Pt.slots] at X1 l1 y1 z1 st1 hQ1
  subst l1 y1 z1
  obtain ⟨rfl, Nq1, eq1⟩ := hQ1
  have N1 := Fr.app N0 Nq1
  refine Runs.by (fun t hr => st1 t hr) ?_
  show Runs p e below _ (T1.setTop (mkF m 55 #[.val (.long q0), .second, .val (.long q1), .second, .val (.long q2), .second, .val (.long q3), .second, .val (.double (FP.l2d ((2 : Int64) * q1))), .second, .val (.double (FP.l2d q0)), .second, .unset, .unset, .unset, .unset, .unset, .unset] [(.double (own_r ((2 : Int64) * q1) q3))]))
  refine Runs.by (fun _ hr => XS.dstore X1.here hx rfl (hb hby d2_55) rfl (l' := #[.val (.long q0), .second, .val (.long q1), .second, .val (.long q2), .second, .val (.long q3), .second, .val (.double (FP.l2d ((2 : Int64) * q1))), .second, .val (.double (FP.l2d q0)), .second, .val (.double (own_r ((2 : Int64) * q1) q3)), .second, .unset, .unset, .unset, .unset]) rfl hr) ?_
  show Runs p e below _ (T1.setTop (mkF m 57 #[.val (.long q0), .second, .val (.long q1), .second, .val (.long q2), .second, .val (.long q3), .second, .val (.double (FP.l2d ((2 : Int64) * q1))), .second, .val (.double (FP.l2d q0)), .second, .val (.double (own_r ((2 : Int64) * q1) q3)), .second, .unset, .unset, .unset, .unset] []))
  refine Runs.by (fun _ hr => XS.dload X1.here hx rfl (hb hby d2_57) rfl  hr) ?_
  show Runs p e below _ (T1.setTop (mkF m 59 #[.val (.long q0), .second, .val (.long q1), .second, .val (.long q2), .second, .val (.long q3), .second, .val (.double (FP.l2d ((2 : Int64) * q1))), .second, .val (.double (FP.l2d q0)), .second, .val (.double (own_r ((2 : Int64) * q1) q3)), .second, .unset, .unset, .unset, .unset] [(.double (FP.l2d q0))]))
  refine Runs.by (fun _ hr => XS.lload X1.here hx rfl (hb hby d2_59) rfl  hr) ?_
  show Runs p e below _ (T1.setTop (mkF m 61 #[.val (.long q0), .second, .val (.long q1), .second, .val (.long q2), .second, .val (.long q3), .second, .val (.double (FP.l2d ((2 : Int64) * q1))), .second, .val (.double (FP.l2d q0)), .second, .val (.double (own_r ((2 : Int64) * q1) q3)), .second, .unset, .unset, .unset, .unset] [(.long q2), (.double (FP.l2d q0))]))
  obtain ⟨_, _, ⟨T2, L2, k2, n2⟩, -, X2, ⟨Lc2, hQ2, l2, y2, z2⟩, st2⟩ := Jvm.LawKit.callS X1 hx (y := (⟨"com/example/word_odds/wordodds/odds/Odds", "ratio", "(DJ)D"⟩ : MethodName)) hown (mvT hZ (hw _ (List.mem_of_getElem? (i := 11) rfl))) (mvT hZ (hw _ (List.mem_of_getElem? (i := 12) rfl))) (mvT hZ (hw _ (List.mem_of_getElem? (i := 8) rfl))) (mvT hZ (hw _ (List.mem_of_getElem? (i := 13) rfl))) (by decide) (backOf (W := 0) (rm3 l Z a0 hw [] (FP.l2d q0) q2  h0 n0 (Nat.le_trans Z0 K0.1) (fun z => own_qnn ks.n kS.n z)) hZ (hw _ (List.mem_of_getElem? (i := 13) rfl)) (hw _ (List.mem_of_getElem? (i := 8) rfl)) (by decide) (by decide)) (g := (mkF m 61 #[.val (.long q0), .second, .val (.long q1), .second, .val (.long q2), .second, .val (.long q3), .second, .val (.double (FP.l2d ((2 : Int64) * q1))), .second, .val (.double (FP.l2d q0)), .second, .val (.double (own_r ((2 : Int64) * q1) q3)), .second, .unset, .unset, .unset, .unset] [(.long q2), (.double (FP.l2d q0))])) rfl (by rw [hml]; rfl) (argsL := [(.double (FP.l2d q0)), (.long q2)]) (rest := []) (lenOf pd_1 rfl) rfl (by show 2 * 0 + _ ≤ _; exact Nat.le_of_eq rfl) (hb hby d2_61) (fun _ _ => ⟨rfl, eq1, (by decide : 0 + 0 ≤ _), (by decide : 0 + 0 ≤ _)⟩)
  dsimp only [Pt.U, Pt.locs, Pt.cells, Pt.slots] at X2 l2 y2 z2 st2 hQ2
  subst l2 y2 z2
  obtain ⟨rfl, Nq2, eq2⟩ := hQ2
  have N2 := Fr.app N1 Nq2
  refine Runs.by (fun t hr => st2 t hr) ?_
  show Runs p e below _ (T2.setTop (mkF m 64 #[.val (.long q0), .second, .val (.long q1), .second, .val (.long q2), .second, .val (.long q3), .second, .val (.double (FP.l2d ((2 : Int64) * q1))), .second, .val (.double (FP.l2d q0)), .second, .val (.double (own_r ((2 : Int64) * q1) q3)), .second, .unset, .unset, .unset, .unset] [(.double (own_r q0 q2))]))
  refine Runs.by (fun _ hr => XS.dstore X2.here hx rfl (hb hby d2_64) rfl (l' := #[.val (.long q0), .second, .val (.long q1), .second, .val (.long q2), .second, .val (.long q3), .second, .val (.double (FP.l2d ((2 : Int64) * q1))), .second, .val (.double (FP.l2d q0)), .second, .val (.double (own_r ((2 : Int64) * q1) q3)), .second, .val (.double (own_r q0 q2)), .second, .unset, .unset]) rfl hr) ?_
  show Runs p e below _ (T2.setTop (mkF m 66 #[.val (.long q0), .second, .val (.long q1), .second, .val (.long q2), .second, .val (.long q3), .second, .val (.double (FP.l2d ((2 : Int64) * q1))), .second, .val (.double (FP.l2d q0)), .second, .val (.double (own_r ((2 : Int64) * q1) q3)), .second, .val (.double (own_r q0 q2)), .second, .unset, .unset] []))
  refine Runs.by (fun _ hr => XS.dload X2.here hx rfl (hb hby d2_66) rfl  hr) ?_
  show Runs p e below _ (T2.setTop (mkF m 68 #[.val (.long q0), .second, .val (.long q1), .second, .val (.long q2), .second, .val (.long q3), .second, .val (.double (FP.l2d ((2 : Int64) * q1))), .second, .val (.double (FP.l2d q0)), .second, .val (.double (own_r ((2 : Int64) * q1) q3)), .second, .val (.double (own_r q0 q2)), .second, .unset, .unset] [(.double (FP.l2d ((2 : Int64) * q1)))]))
  refine Runs.by (fun _ hr => XS.dload X2.here hx rfl (hb hby d2_68) rfl  hr) ?_
  show Runs p e below _ (T2.setTop (mkF m 70 #[.val (.long q0), .second, .val (.long q1), .second, .val (.long q2), .second, .val (.long q3), .second, .val (.double (FP.l2d ((2 : Int64) * q1))), .second, .val (.double (FP.l2d q0)), .second, .val (.double (own_r ((2 : Int64) * q1) q3)), .second, .val (.double (own_r q0 q2)), .second, .unset, .unset] [(.double (FP.l2d q0)), (.double (FP.l2d ((2 : Int64) * q1)))]))
  refine Runs.by (fun _ hr => XS.daddS X2.here hx rfl (hb hby d2_70) rfl (nn_w (own_add kh ks)) rfl hr) ?_
  show Runs p e below _ (T2.setTop (mkF m 71 #[.val (.long q0), .second, .val (.long q1), .second, .val (.long q2), .second, .val (.long q3), .second, .val (.double (FP.l2d ((2 : Int64) * q1))), .second, .val (.double (FP.l2d q0)), .second, .val (.double (own_r ((2 : Int64) * q1) q3)), .second, .val (.double (own_r q0 q2)), .second, .unset, .unset] [(.double (FP.dadd (FP.l2d ((2 : Int64) * q1)) (FP.l2d q0)))]))
  rw [own_add kh ks]
  show Runs p e below _ (T2.setTop (mkF m 71 #[.val (.long q0), .second, .val (.long q1), .second, .val (.long q2), .second, .val (.long q3), .second, .val (.double (FP.l2d ((2 : Int64) * q1))), .second, .val (.double (FP.l2d q0)), .second, .val (.double (own_r ((2 : Int64) * q1) q3)), .second, .val (.double (own_r q0 q2)), .second, .unset, .unset] [(.double (FP.l2d (((2 : Int64) * q1) + q0)))]))
  refine Runs.by (fun t hr => X2.ldc2DoubleC hx hown (mvT hZ (hw _ (List.mem_of_getElem? (i := 18) rfl))) (g := (mkF m 71 #[.val (.long q0), .second, .val (.long q1), .second, .val (.long q2), .second, .val (.long q3), .second, .val (.double (FP.l2d ((2 : Int64) * q1))), .second, .val (.double (FP.l2d q0)), .second, .val (.double (own_r ((2 : Int64) * q1) q3)), .second, .val (.double (own_r q0 q2)), .second, .unset, .unset] [(.double (FP.l2d (((2 : Int64) * q1) + q0)))])) rfl (hb hby d2_71) t hr) ?_
  show Runs p e below _ (T2.setTop (mkF m 74 #[.val (.long q0), .second, .val (.long q1), .second, .val (.long q2), .second, .val (.long q3), .second, .val (.double (FP.l2d ((2 : Int64) * q1))), .second, .val (.double (FP.l2d q0)), .second, .val (.double (own_r ((2 : Int64) * q1) q3)), .second, .val (.double (own_r q0 q2)), .second, .unset, .unset] [(.double (4617315517961601024 : UInt64)), (.double (FP.l2d (((2 : Int64) * q1) + q0)))]))
  refine Runs.by (fun _ hr => XS.dcmpS X2.here hx rfl (hb hby d2_74) rfl (own_c5 kh ks) hr) ?_
  show Runs p e below _ (T2.setTop (mkF m 75 #[.val (.long q0), .second, .val (.long q1), .second, .val (.long q2), .second, .val (.long q3), .second, .val (.double (FP.l2d ((2 : Int64) * q1))), .second, .val (.double (FP.l2d q0)), .second, .val (.double (own_r ((2 : Int64) * q1) q3)), .second, .val (.double (own_r q0 q2)), .second, .unset, .unset] [(.int (lcmpW (((2 : Int64) * q1) + q0) (5 : Int64)))]))
  by_cases hc75 : (lcmpW (((2 : Int64) * q1) + q0) (5 : Int64)) < (0 : Int32)
  · -- pc 75: (lcmpW (((2 : Int64) * q1) + q0) (5 : Int64)) < (0 : Int32)
    refine Runs.by (fun _ hr => XS.ifYes X2.here hx rfl (pc0 := 75) (pc' := 88) rfl (hb hby d2_75) rfl ((if0 _ _).trans (tlt hc75).1) (by decide) (by decide) hr) ?_
    show Runs p e below _ (T2.setTop (mkF m 88 #[.val (.long q0), .second, .val (.long q1), .second, .val (.long q2), .second, .val (.long q3), .second, .val (.double (FP.l2d ((2 : Int64) * q1))), .second, .val (.double (FP.l2d q0)), .second, .val (.double (own_r ((2 : Int64) * q1) q3)), .second, .val (.double (own_r q0 q2)), .second, .unset, .unset] []))
    refine Runs.by (fun t hr => X2.ldc2DoubleC hx hown (mvT hZ (hw _ (List.mem_of_getElem? (i := 32) rfl))) (g := (mkF m 88 #[.val (.long q0), .second, .val (.long q1), .second, .val (.long q2), .second, .val (.long q3), .second, .val (.double (FP.l2d ((2 : Int64) * q1))), .second, .val (.double (FP.l2d q0)), .second, .val (.double (own_r ((2 : Int64) * q1) q3)), .second, .val (.double (own_r q0 q2)), .second, .unset, .unset] [])) rfl (hb hby d2_88) t hr) ?_
    show Runs p e below _ (T2.setTop (mkF m 91 #[.val (.long q0), .second, .val (.long q1), .second, .val (.long q2), .second, .val (.long q3), .second, .val (.double (FP.l2d ((2 : Int64) * q1))), .second, .val (.double (FP.l2d q0)), .second, .val (.double (own_r ((2 : Int64) * q1) q3)), .second, .val (.double (own_r q0 q2)), .second, .unset, .unset] [(.double (4600877379321698714 : UInt64))]))
    refine Runs.by (fun _ hr => XS.dstore X2.here hx rfl (hb hby d2_91) rfl (l' := #[.val (.long q0), .second, .val (.long q1), .second, .val (.long q2), .second, .val (.long q3), .second, .val (.double (FP.l2d ((2 : Int64) * q1))), .second, .val (.double (FP.l2d q0)), .second, .val (.double (own_r ((2 : Int64) * q1) q3)), .second, .val (.double (own_r q0 q2)), .second, .val (.double (4600877379321698714 : UInt64)), .second]) rfl hr) ?_
    show Runs p e below _ (T2.setTop (mkF m 93 #[.val (.long q0), .second, .val (.long q1), .second, .val (.long q2), .second, .val (.long q3), .second, .val (.double (FP.l2d ((2 : Int64) * q1))), .second, .val (.double (FP.l2d q0)), .second, .val (.double (own_r ((2 : Int64) * q1) q3)), .second, .val (.double (own_r q0 q2)), .second, .val (.double (4600877379321698714 : UInt64)), .second] []))
    refine Runs.by (fun _ hr => XS.goto X2.here hx rfl (pc0 := 93) (pc' := 122) rfl (hb hby d2_93) (by decide) (by decide) hr) ?_
    show Runs p e below _ (T2.setTop (mkF m 122 #[.val (.long q0), .second, .val (.long q1), .second, .val (.long q2), .second, .val (.long q3), .second, .val (.double (FP.l2d ((2 : Int64) * q1))), .second, .val (.double (FP.l2d q0)), .second, .val (.double (own_r ((2 : Int64) * q1) q3)), .second, .val (.double (own_r q0 q2)), .second, .val (.double (4600877379321698714 : UInt64)), .second] []))
    refine Runs.by (fun _ hr => XS.dload X2.here hx rfl (hb hby d2_122) rfl  hr) ?_
    show Runs p e below _ (T2.setTop (mkF m 124 #[.val (.long q0), .second, .val (.long q1), .second, .val (.long q2), .second, .val (.long q3), .second, .val (.double (FP.l2d ((2 : Int64) * q1))), .second, .val (.double (FP.l2d q0)), .second, .val (.double (own_r ((2 : Int64) * q1) q3)), .second, .val (.double (own_r q0 q2)), .second, .val (.double (4600877379321698714 : UInt64)), .second] [(.double (4600877379321698714 : UInt64))]))
    refine Runs.ret X2 hx hrt hlk (Or.inr (Or.inr (Or.inl ⟨rfl, rfl, _, rfl⟩))) rfl (hb hby d2_124) (by decide) (by decide) ?_
    rw [eq2]
    exact ⟨congrArg (fun z => some (Value.double z)) (Eq.symm (own_P1 hc75)), N2, rfl⟩
  · -- pc 75: not (lcmpW (((2 : Int64) * q1) + q0) (5 : Int64)) < (0 : Int32)
    refine Runs.by (fun _ hr => XS.ifNo X2.here hx rfl (hb hby d2_75) rfl ((if0 _ _).trans (flt hc75).1) hr) ?_
    show Runs p e below _ (T2.setTop (mkF m 78 #[.val (.long q0), .second, .val (.long q1), .second, .val (.long q2), .second, .val (.long q3), .second, .val (.double (FP.l2d ((2 : Int64) * q1))), .second, .val (.double (FP.l2d q0)), .second, .val (.double (own_r ((2 : Int64) * q1) q3)), .second, .val (.double (own_r q0 q2)), .second, .unset, .unset] []))
    refine Runs.by (fun _ hr => XS.dload X2.here hx rfl (hb hby d2_78) rfl  hr) ?_
    show Runs p e below _ (T2.setTop (mkF m 80 #[.val (.long q0), .second, .val (.long q1), .second, .val (.long q2), .second, .val (.long q3), .second, .val (.double (FP.l2d ((2 : Int64) * q1))), .second, .val (.double (FP.l2d q0)), .second, .val (.double (own_r ((2 : Int64) * q1) q3)), .second, .val (.double (own_r q0 q2)), .second, .unset, .unset] [(.double (own_r ((2 : Int64) * q1) q3))]))
    refine Runs.by (fun _ hr => XS.dload X2.here hx rfl (hb hby d2_80) rfl  hr) ?_
    show Runs p e below _ (T2.setTop (mkF m 82 #[.val (.long q0), .second, .val (.long q1), .second, .val (.long q2), .second, .val (.long q3), .second, .val (.double (FP.l2d ((2 : Int64) * q1))), .second, .val (.double (FP.l2d q0)), .second, .val (.double (own_r ((2 : Int64) * q1) q3)), .second, .val (.double (own_r q0 q2)), .second, .unset, .unset] [(.double (own_r q0 q2)), (.double (own_r ((2 : Int64) * q1) q3))]))
    refine Runs.by (fun _ hr => XS.daddS X2.here hx rfl (hb hby d2_82) rfl (own_nnd fg fb) rfl hr) ?_
    show Runs p e below _ (T2.setTop (mkF m 83 #[.val (.long q0), .second, .val (.long q1), .second, .val (.long q2), .second, .val (.long q3), .second, .val (.double (FP.l2d ((2 : Int64) * q1))), .second, .val (.double (FP.l2d q0)), .second, .val (.double (own_r ((2 : Int64) * q1) q3)), .second, .val (.double (own_r q0 q2)), .second, .unset, .unset] [(.double (FP.dadd (own_r ((2 : Int64) * q1) q3) (own_r q0 q2)))]))
    refine Runs.by (fun _ hr => XS.dconst0 X2.here hx rfl (hb hby d2_83) rfl hr) ?_
    show Runs p e below _ (T2.setTop (mkF m 84 #[.val (.long q0), .second, .val (.long q1), .second, .val (.long q2), .second, .val (.long q3), .second, .val (.double (FP.l2d ((2 : Int64) * q1))), .second, .val (.double (FP.l2d q0)), .second, .val (.double (own_r ((2 : Int64) * q1) q3)), .second, .val (.double (own_r q0 q2)), .second, .unset, .unset] [(.double FP.dconst0), (.double (FP.dadd (own_r ((2 : Int64) * q1) q3) (own_r q0 q2)))]))
    refine Runs.by (fun _ hr => XS.dcmpS X2.here hx rfl (hb hby d2_84) rfl rfl hr) ?_
    show Runs p e below _ (T2.setTop (mkF m 85 #[.val (.long q0), .second, .val (.long q1), .second, .val (.long q2), .second, .val (.long q3), .second, .val (.double (FP.l2d ((2 : Int64) * q1))), .second, .val (.double (FP.l2d q0)), .second, .val (.double (own_r ((2 : Int64) * q1) q3)), .second, .val (.double (own_r q0 q2)), .second, .unset, .unset] [(.int (cmpValue (FP.dcmp (FP.dadd (own_r ((2 : Int64) * q1) q3) (own_r q0 q2)) FP.dconst0) .l))]))
    by_cases hc85 : (cmpValue (FP.dcmp (FP.dadd (own_r ((2 : Int64) * q1) q3) (own_r q0 q2)) FP.dconst0) .l) = (0 : Int32)
    · -- pc 85: (cmpValue (FP.dcmp (FP.dadd (own_r ((2 : Int64) * q1) q3) (own_r q0 q2)) FP.dconst0) .l) = (0 : Int32)
      refine Runs.by (fun _ hr => XS.ifNo X2.here hx rfl (hb hby d2_85) rfl ((if0 _ _).trans (teq hc85).2) hr) ?_
      show Runs p e below _ (T2.setTop (mkF m 88 #[.val (.long q0), .second, .val (.long q1), .second, .val (.long q2), .second, .val (.long q3), .second, .val (.double (FP.l2d ((2 : Int64) * q1))), .second, .val (.double (FP.l2d q0)), .second, .val (.double (own_r ((2 : Int64) * q1) q3)), .second, .val (.double (own_r q0 q2)), .second, .unset, .unset] []))
      refine Runs.by (fun t hr => X2.ldc2DoubleC hx hown (mvT hZ (hw _ (List.mem_of_getElem? (i := 32) rfl))) (g := (mkF m 88 #[.val (.long q0), .second, .val (.long q1), .second, .val (.long q2), .second, .val (.long q3), .second, .val (.double (FP.l2d ((2 : Int64) * q1))), .second, .val (.double (FP.l2d q0)), .second, .val (.double (own_r ((2 : Int64) * q1) q3)), .second, .val (.double (own_r q0 q2)), .second, .unset, .unset] [])) rfl (hb hby d2_88) t hr) ?_
      show Runs p e below _ (T2.setTop (mkF m 91 #[.val (.long q0), .second, .val (.long q1), .second, .val (.long q2), .second, .val (.long q3), .second, .val (.double (FP.l2d ((2 : Int64) * q1))), .second, .val (.double (FP.l2d q0)), .second, .val (.double (own_r ((2 : Int64) * q1) q3)), .second, .val (.double (own_r q0 q2)), .second, .unset, .unset] [(.double (4600877379321698714 : UInt64))]))
      refine Runs.by (fun _ hr => XS.dstore X2.here hx rfl (hb hby d2_91) rfl (l' := #[.val (.long q0), .second, .val (.long q1), .second, .val (.long q2), .second, .val (.long q3), .second, .val (.double (FP.l2d ((2 : Int64) * q1))), .second, .val (.double (FP.l2d q0)), .second, .val (.double (own_r ((2 : Int64) * q1) q3)), .second, .val (.double (own_r q0 q2)), .second, .val (.double (4600877379321698714 : UInt64)), .second]) rfl hr) ?_
      show Runs p e below _ (T2.setTop (mkF m 93 #[.val (.long q0), .second, .val (.long q1), .second, .val (.long q2), .second, .val (.long q3), .second, .val (.double (FP.l2d ((2 : Int64) * q1))), .second, .val (.double (FP.l2d q0)), .second, .val (.double (own_r ((2 : Int64) * q1) q3)), .second, .val (.double (own_r q0 q2)), .second, .val (.double (4600877379321698714 : UInt64)), .second] []))
      refine Runs.by (fun _ hr => XS.goto X2.here hx rfl (pc0 := 93) (pc' := 122) rfl (hb hby d2_93) (by decide) (by decide) hr) ?_
      show Runs p e below _ (T2.setTop (mkF m 122 #[.val (.long q0), .second, .val (.long q1), .second, .val (.long q2), .second, .val (.long q3), .second, .val (.double (FP.l2d ((2 : Int64) * q1))), .second, .val (.double (FP.l2d q0)), .second, .val (.double (own_r ((2 : Int64) * q1) q3)), .second, .val (.double (own_r q0 q2)), .second, .val (.double (4600877379321698714 : UInt64)), .second] []))
      refine Runs.by (fun _ hr => XS.dload X2.here hx rfl (hb hby d2_122) rfl  hr) ?_
      show Runs p e below _ (T2.setTop (mkF m 124 #[.val (.long q0), .second, .val (.long q1), .second, .val (.long q2), .second, .val (.long q3), .second, .val (.double (FP.l2d ((2 : Int64) * q1))), .second, .val (.double (FP.l2d q0)), .second, .val (.double (own_r ((2 : Int64) * q1) q3)), .second, .val (.double (own_r q0 q2)), .second, .val (.double (4600877379321698714 : UInt64)), .second] [(.double (4600877379321698714 : UInt64))]))
      refine Runs.ret X2 hx hrt hlk (Or.inr (Or.inr (Or.inl ⟨rfl, rfl, _, rfl⟩))) rfl (hb hby d2_124) (by decide) (by decide) ?_
      rw [eq2]
      exact ⟨congrArg (fun z => some (Value.double z)) (Eq.symm (own_P2 hc75 hc85)), N2, rfl⟩
    · -- pc 85: not (cmpValue (FP.dcmp (FP.dadd (own_r ((2 : Int64) * q1) q3) (own_r q0 q2)) FP.dconst0) .l) = (0 : Int32)
      refine Runs.by (fun _ hr => XS.ifYes X2.here hx rfl (pc0 := 85) (pc' := 96) rfl (hb hby d2_85) rfl ((if0 _ _).trans (feq hc85).2) (by decide) (by decide) hr) ?_
      show Runs p e below _ (T2.setTop (mkF m 96 #[.val (.long q0), .second, .val (.long q1), .second, .val (.long q2), .second, .val (.long q3), .second, .val (.double (FP.l2d ((2 : Int64) * q1))), .second, .val (.double (FP.l2d q0)), .second, .val (.double (own_r ((2 : Int64) * q1) q3)), .second, .val (.double (own_r q0 q2)), .second, .unset, .unset] []))
      refine Runs.by (fun _ hr => XS.dload X2.here hx rfl (hb hby d2_96) rfl  hr) ?_
      show Runs p e below _ (T2.setTop (mkF m 98 #[.val (.long q0), .second, .val (.long q1), .second, .val (.long q2), .second, .val (.long q3), .second, .val (.double (FP.l2d ((2 : Int64) * q1))), .second, .val (.double (FP.l2d q0)), .second, .val (.double (own_r ((2 : Int64) * q1) q3)), .second, .val (.double (own_r q0 q2)), .second, .unset, .unset] [(.double (own_r q0 q2))]))
      refine Runs.by (fun _ hr => XS.dload X2.here hx rfl (hb hby d2_98) rfl  hr) ?_
      show Runs p e below _ (T2.setTop (mkF m 100 #[.val (.long q0), .second, .val (.long q1), .second, .val (.long q2), .second, .val (.long q3), .second, .val (.double (FP.l2d ((2 : Int64) * q1))), .second, .val (.double (FP.l2d q0)), .second, .val (.double (own_r ((2 : Int64) * q1) q3)), .second, .val (.double (own_r q0 q2)), .second, .unset, .unset] [(.double (own_r ((2 : Int64) * q1) q3)), (.double (own_r q0 q2))]))
      refine Runs.by (fun _ hr => XS.dload X2.here hx rfl (hb hby d2_100) rfl  hr) ?_
      show Runs p e below _ (T2.setTop (mkF m 102 #[.val (.long q0), .second, .val (.long q1), .second, .val (.long q2), .second, .val (.long q3), .second, .val (.double (FP.l2d ((2 : Int64) * q1))), .second, .val (.double (FP.l2d q0)), .second, .val (.double (own_r ((2 : Int64) * q1) q3)), .second, .val (.double (own_r q0 q2)), .second, .unset, .unset] [(.double (own_r q0 q2)), (.double (own_r ((2 : Int64) * q1) q3)), (.double (own_r q0 q2))]))
      refine Runs.by (fun _ hr => XS.daddS X2.here hx rfl (hb hby d2_102) rfl (own_nnd fg fb) rfl hr) ?_
      show Runs p e below _ (T2.setTop (mkF m 103 #[.val (.long q0), .second, .val (.long q1), .second, .val (.long q2), .second, .val (.long q3), .second, .val (.double (FP.l2d ((2 : Int64) * q1))), .second, .val (.double (FP.l2d q0)), .second, .val (.double (own_r ((2 : Int64) * q1) q3)), .second, .val (.double (own_r q0 q2)), .second, .unset, .unset] [(.double (FP.dadd (own_r ((2 : Int64) * q1) q3) (own_r q0 q2))), (.double (own_r q0 q2))]))
      refine Runs.by (fun _ hr => XS.ddivS X2.here hx rfl (hb hby d2_103) rfl (own_nnq fg fb lg lb hc85) rfl hr) ?_
      show Runs p e below _ (T2.setTop (mkF m 104 #[.val (.long q0), .second, .val (.long q1), .second, .val (.long q2), .second, .val (.long q3), .second, .val (.double (FP.l2d ((2 : Int64) * q1))), .second, .val (.double (FP.l2d q0)), .second, .val (.double (own_r ((2 : Int64) * q1) q3)), .second, .val (.double (own_r q0 q2)), .second, .unset, .unset] [(.double (FP.ddiv (own_r q0 q2) (FP.dadd (own_r ((2 : Int64) * q1) q3) (own_r q0 q2))))]))
      refine Runs.by (fun _ hr => XS.dstore X2.here hx rfl (hb hby d2_104) rfl (l' := #[.val (.long q0), .second, .val (.long q1), .second, .val (.long q2), .second, .val (.long q3), .second, .val (.double (FP.l2d ((2 : Int64) * q1))), .second, .val (.double (FP.l2d q0)), .second, .val (.double (own_r ((2 : Int64) * q1) q3)), .second, .val (.double (own_r q0 q2)), .second, .val (.double (FP.ddiv (own_r q0 q2) (FP.dadd (own_r ((2 : Int64) * q1) q3) (own_r q0 q2)))), .second]) rfl hr) ?_
      show Runs p e below _ (T2.setTop (mkF m 106 #[.val (.long q0), .second, .val (.long q1), .second, .val (.long q2), .second, .val (.long q3), .second, .val (.double (FP.l2d ((2 : Int64) * q1))), .second, .val (.double (FP.l2d q0)), .second, .val (.double (own_r ((2 : Int64) * q1) q3)), .second, .val (.double (own_r q0 q2)), .second, .val (.double (FP.ddiv (own_r q0 q2) (FP.dadd (own_r ((2 : Int64) * q1) q3) (own_r q0 q2)))), .second] []))
      refine Runs.by (fun t hr => X2.ldc2DoubleC hx hown (mvT hZ (hw _ (List.mem_of_getElem? (i := 19) rfl))) (g := (mkF m 106 #[.val (.long q0), .second, .val (.long q1), .second, .val (.long q2), .second, .val (.long q3), .second, .val (.double (FP.l2d ((2 : Int64) * q1))), .second, .val (.double (FP.l2d q0)), .second, .val (.double (own_r ((2 : Int64) * q1) q3)), .second, .val (.double (own_r q0 q2)), .second, .val (.double (FP.ddiv (own_r q0 q2) (FP.dadd (own_r ((2 : Int64) * q1) q3) (own_r q0 q2)))), .second] [])) rfl (hb hby d2_106) t hr) ?_
      show Runs p e below _ (T2.setTop (mkF m 109 #[.val (.long q0), .second, .val (.long q1), .second, .val (.long q2), .second, .val (.long q3), .second, .val (.double (FP.l2d ((2 : Int64) * q1))), .second, .val (.double (FP.l2d q0)), .second, .val (.double (own_r ((2 : Int64) * q1) q3)), .second, .val (.double (own_r q0 q2)), .second, .val (.double (FP.ddiv (own_r q0 q2) (FP.dadd (own_r ((2 : Int64) * q1) q3) (own_r q0 q2)))), .second] [(.double (4576918229304087675 : UInt64))]))
      refine Runs.by (fun t hr => X2.ldc2DoubleC hx hown (mvT hZ (hw _ (List.mem_of_getElem? (i := 20) rfl))) (g := (mkF m 109 #[.val (.long q0), .second, .val (.long q1), .second, .val (.long q2), .second, .val (.long q3), .second, .val (.double (FP.l2d ((2 : Int64) * q1))), .second, .val (.double (FP.l2d q0)), .second, .val (.double (own_r ((2 : Int64) * q1) q3)), .second, .val (.double (own_r q0 q2)), .second, .val (.double (FP.ddiv (own_r q0 q2) (FP.dadd (own_r ((2 : Int64) * q1) q3) (own_r q0 q2)))), .second] [(.double (4576918229304087675 : UInt64))])) rfl (hb hby d2_109) t hr) ?_
      show Runs p e below _ (T2.setTop (mkF m 112 #[.val (.long q0), .second, .val (.long q1), .second, .val (.long q2), .second, .val (.long q3), .second, .val (.double (FP.l2d ((2 : Int64) * q1))), .second, .val (.double (FP.l2d q0)), .second, .val (.double (own_r ((2 : Int64) * q1) q3)), .second, .val (.double (own_r q0 q2)), .second, .val (.double (FP.ddiv (own_r q0 q2) (FP.dadd (own_r ((2 : Int64) * q1) q3) (own_r q0 q2)))), .second] [(.double (4607092346807469998 : UInt64)), (.double (4576918229304087675 : UInt64))]))
      refine Runs.by (fun _ hr => XS.dload X2.here hx rfl (hb hby d2_112) rfl  hr) ?_
      show Runs p e below _ (T2.setTop (mkF m 114 #[.val (.long q0), .second, .val (.long q1), .second, .val (.long q2), .second, .val (.long q3), .second, .val (.double (FP.l2d ((2 : Int64) * q1))), .second, .val (.double (FP.l2d q0)), .second, .val (.double (own_r ((2 : Int64) * q1) q3)), .second, .val (.double (own_r q0 q2)), .second, .val (.double (FP.ddiv (own_r q0 q2) (FP.dadd (own_r ((2 : Int64) * q1) q3) (own_r q0 q2)))), .second] [(.double (FP.ddiv (own_r q0 q2) (FP.dadd (own_r ((2 : Int64) * q1) q3) (own_r q0 q2)))), (.double (4607092346807469998 : UInt64)), (.double (4576918229304087675 : UInt64))]))
      obtain ⟨T3, X3, e3, st3⟩ := natS X2 hx hZ (y := (⟨"java/lang/Math", "min", "(DD)D"⟩ : MethodName)) hown (hw _ (List.mem_of_getElem? (i := 14) rfl)) (hw _ (List.mem_of_getElem? (i := 15) rfl)) (hw _ (List.mem_of_getElem? (i := 16) rfl)) (hw _ (List.mem_of_getElem? (i := 17) rfl)) (by decide) eq2 (W := 2) (F := fun a' => a' = #[(.double (4607092346807469998 : UInt64)), (.double (FP.ddiv (own_r q0 q2) (FP.dadd (own_r ((2 : Int64) * q1) q3) (own_r q0 q2))))] ∧ Jvm.Free.Fl.NoNaN64 (4607092346807469998 : UInt64) ∧ Jvm.Free.Fl.NoNaN64 (FP.ddiv (own_r q0 q2) (FP.dadd (own_r ((2 : Int64) * q1) q3) (own_r q0 q2)))) (fun c4 => Jvm.Free.Fl.Abs.minD_pays (4607092346807469998 : UInt64) (FP.ddiv (own_r q0 q2) (FP.dadd (own_r ((2 : Int64) * q1) q3) (own_r q0 q2))) c4 (by decide) (by decide)) (g := (mkF m 114 #[.val (.long q0), .second, .val (.long q1), .second, .val (.long q2), .second, .val (.long q3), .second, .val (.double (FP.l2d ((2 : Int64) * q1))), .second, .val (.double (FP.l2d q0)), .second, .val (.double (own_r ((2 : Int64) * q1) q3)), .second, .val (.double (own_r q0 q2)), .second, .val (.double (FP.ddiv (own_r q0 q2) (FP.dadd (own_r ((2 : Int64) * q1) q3) (own_r q0 q2)))), .second] [(.double (FP.ddiv (own_r q0 q2) (FP.dadd (own_r ((2 : Int64) * q1) q3) (own_r q0 q2)))), (.double (4607092346807469998 : UInt64)), (.double (4576918229304087675 : UInt64))])) rfl (by rw [hml]; rfl) (argsL := [(.double (4607092346807469998 : UInt64)), (.double (FP.ddiv (own_r q0 q2) (FP.dadd (own_r ((2 : Int64) * q1) q3) (own_r q0 q2))))]) (rest := [(.double (4576918229304087675 : UInt64))]) (lenOf pd_0 rfl) rfl (by show 2 * 0 + _ ≤ _; exact Nat.le_of_eq rfl) (hb hby d2_114) (by decide) (by decide) ⟨rfl, own_no own_nn99, own_nnq fg fb lg lb hc85⟩ (val' := (.double (own_mn (4607092346807469998 : UInt64) (FP.ddiv (own_r q0 q2) (FP.dadd (own_r ((2 : Int64) * q1) q3) (own_r q0 q2)))))) rfl
      refine Runs.by st3 ?_
      show Runs p e below _ (T3.setTop (mkF m 117 #[.val (.long q0), .second, .val (.long q1), .second, .val (.long q2), .second, .val (.long q3), .second, .val (.double (FP.l2d ((2 : Int64) * q1))), .second, .val (.double (FP.l2d q0)), .second, .val (.double (own_r ((2 : Int64) * q1) q3)), .second, .val (.double (own_r q0 q2)), .second, .val (.double (FP.ddiv (own_r q0 q2) (FP.dadd (own_r ((2 : Int64) * q1) q3) (own_r q0 q2)))), .second] [(.double (own_mn (4607092346807469998 : UInt64) (FP.ddiv (own_r q0 q2) (FP.dadd (own_r ((2 : Int64) * q1) q3) (own_r q0 q2))))), (.double (4576918229304087675 : UInt64))]))
      obtain ⟨T4, X4, e4, st4⟩ := natS X3 hx hZ (y := (⟨"java/lang/Math", "max", "(DD)D"⟩ : MethodName)) hown (hw _ (List.mem_of_getElem? (i := 21) rfl)) (hw _ (List.mem_of_getElem? (i := 22) rfl)) (hw _ (List.mem_of_getElem? (i := 16) rfl)) (hw _ (List.mem_of_getElem? (i := 23) rfl)) (by decide) e3 (W := 0) (F := fun a' => a' = #[(.double (4576918229304087675 : UInt64)), (.double (own_mn (4607092346807469998 : UInt64) (FP.ddiv (own_r q0 q2) (FP.dadd (own_r ((2 : Int64) * q1) q3) (own_r q0 q2)))))] ∧ Jvm.Free.Fl.NoNaN64 (4576918229304087675 : UInt64) ∧ Jvm.Free.Fl.NoNaN64 (own_mn (4607092346807469998 : UInt64) (FP.ddiv (own_r q0 q2) (FP.dadd (own_r ((2 : Int64) * q1) q3) (own_r q0 q2))))) (fun c4 => Jvm.Free.Fl.Abs.maxD_pays (4576918229304087675 : UInt64) (own_mn (4607092346807469998 : UInt64) (FP.ddiv (own_r q0 q2) (FP.dadd (own_r ((2 : Int64) * q1) q3) (own_r q0 q2)))) c4 (by decide) (by decide)) (g := (mkF m 117 #[.val (.long q0), .second, .val (.long q1), .second, .val (.long q2), .second, .val (.long q3), .second, .val (.double (FP.l2d ((2 : Int64) * q1))), .second, .val (.double (FP.l2d q0)), .second, .val (.double (own_r ((2 : Int64) * q1) q3)), .second, .val (.double (own_r q0 q2)), .second, .val (.double (FP.ddiv (own_r q0 q2) (FP.dadd (own_r ((2 : Int64) * q1) q3) (own_r q0 q2)))), .second] [(.double (own_mn (4607092346807469998 : UInt64) (FP.ddiv (own_r q0 q2) (FP.dadd (own_r ((2 : Int64) * q1) q3) (own_r q0 q2))))), (.double (4576918229304087675 : UInt64))])) rfl (by rw [hml]; rfl) (argsL := [(.double (4576918229304087675 : UInt64)), (.double (own_mn (4607092346807469998 : UInt64) (FP.ddiv (own_r q0 q2) (FP.dadd (own_r ((2 : Int64) * q1) q3) (own_r q0 q2)))))]) (rest := []) (lenOf pd_0 rfl) rfl (by show 2 * 0 + _ ≤ _; exact Nat.le_of_eq rfl) (hb hby d2_117) (by decide) (by decide) ⟨rfl, own_no own_nn01, own_nomn (own_no own_nn99) (own_nnq fg fb lg lb hc85)⟩ (val' := (.double (own_mx (4576918229304087675 : UInt64) (own_mn (4607092346807469998 : UInt64) (FP.ddiv (own_r q0 q2) (FP.dadd (own_r ((2 : Int64) * q1) q3) (own_r q0 q2))))))) rfl
      refine Runs.by st4 ?_
      show Runs p e below _ (T4.setTop (mkF m 120 #[.val (.long q0), .second, .val (.long q1), .second, .val (.long q2), .second, .val (.long q3), .second, .val (.double (FP.l2d ((2 : Int64) * q1))), .second, .val (.double (FP.l2d q0)), .second, .val (.double (own_r ((2 : Int64) * q1) q3)), .second, .val (.double (own_r q0 q2)), .second, .val (.double (FP.ddiv (own_r q0 q2) (FP.dadd (own_r ((2 : Int64) * q1) q3) (own_r q0 q2)))), .second] [(.double (own_mx (4576918229304087675 : UInt64) (own_mn (4607092346807469998 : UInt64) (FP.ddiv (own_r q0 q2) (FP.dadd (own_r ((2 : Int64) * q1) q3) (own_r q0 q2))))))]))
      refine Runs.by (fun _ hr => XS.dstore X4.here hx rfl (hb hby d2_120) rfl (l' := #[.val (.long q0), .second, .val (.long q1), .second, .val (.long q2), .second, .val (.long q3), .second, .val (.double (FP.l2d ((2 : Int64) * q1))), .second, .val (.double (FP.l2d q0)), .second, .val (.double (own_r ((2 : Int64) * q1) q3)), .second, .val (.double (own_r q0 q2)), .second, .val (.double (own_mx (4576918229304087675 : UInt64) (own_mn (4607092346807469998 : UInt64) (FP.ddiv (own_r q0 q2) (FP.dadd (own_r ((2 : Int64) * q1) q3) (own_r q0 q2)))))), .second]) rfl hr) ?_
      show Runs p e below _ (T4.setTop (mkF m 122 #[.val (.long q0), .second, .val (.long q1), .second, .val (.long q2), .second, .val (.long q3), .second, .val (.double (FP.l2d ((2 : Int64) * q1))), .second, .val (.double (FP.l2d q0)), .second, .val (.double (own_r ((2 : Int64) * q1) q3)), .second, .val (.double (own_r q0 q2)), .second, .val (.double (own_mx (4576918229304087675 : UInt64) (own_mn (4607092346807469998 : UInt64) (FP.ddiv (own_r q0 q2) (FP.dadd (own_r ((2 : Int64) * q1) q3) (own_r q0 q2)))))), .second] []))
      refine Runs.by (fun _ hr => XS.dload X4.here hx rfl (hb hby d2_122) rfl  hr) ?_
      show Runs p e below _ (T4.setTop (mkF m 124 #[.val (.long q0), .second, .val (.long q1), .second, .val (.long q2), .second, .val (.long q3), .second, .val (.double (FP.l2d ((2 : Int64) * q1))), .second, .val (.double (FP.l2d q0)), .second, .val (.double (own_r ((2 : Int64) * q1) q3)), .second, .val (.double (own_r q0 q2)), .second, .val (.double (own_mx (4576918229304087675 : UInt64) (own_mn (4607092346807469998 : UInt64) (FP.ddiv (own_r q0 q2) (FP.dadd (own_r ((2 : Int64) * q1) q3) (own_r q0 q2)))))), .second] [(.double (own_mx (4576918229304087675 : UInt64) (own_mn (4607092346807469998 : UInt64) (FP.ddiv (own_r q0 q2) (FP.dadd (own_r ((2 : Int64) * q1) q3) (own_r q0 q2))))))]))
      refine Runs.ret X4 hx hrt hlk (Or.inr (Or.inr (Or.inl ⟨rfl, rfl, _, rfl⟩))) rfl (hb hby d2_124) (by decide) (by decide) ?_
      rw [e4]
      exact ⟨congrArg (fun z => some (Value.double z)) (Eq.symm (own_P3 hc75 hc85)), N2, rfl⟩
theorem d6_0 : decode method_3_code 0 = .ok (.lload_n 0, 1) := by decide +kernel
theorem d6_1 : decode method_3_code 1 = .ok (.lload_n 2, 1) := by decide +kernel
theorem d6_2 : decode method_3_code 2 = .ok (.lcmp, 1) := by decide +kernel
theorem d6_3 : decode method_3_code 3 = .ok (.ifCond .lt 7, 3) := by decide +kernel
theorem d6_6 : decode method_3_code 6 = .ok (.iconst 1, 1) := by decide +kernel
theorem d6_7 : decode method_3_code 7 = .ok (.goto 4, 3) := by decide +kernel
theorem d6_10 : decode method_3_code 10 = .ok (.iconst 0, 1) := by decide +kernel
theorem d6_11 : decode method_3_code 11 = .ok (.istore 8, 2) := by decide +kernel
theorem d6_13 : decode method_3_code 13 = .ok (.lload 4, 2) := by decide +kernel
theorem d6_15 : decode method_3_code 15 = .ok (.lload 6, 2) := by decide +kernel
theorem d6_17 : decode method_3_code 17 = .ok (.lcmp, 1) := by decide +kernel
theorem d6_18 : decode method_3_code 18 = .ok (.ifCond .lt 7, 3) := by decide +kernel
theorem d6_21 : decode method_3_code 21 = .ok (.iconst 1, 1) := by decide +kernel
theorem d6_22 : decode method_3_code 22 = .ok (.goto 4, 3) := by decide +kernel
theorem d6_25 : decode method_3_code 25 = .ok (.iconst 0, 1) := by decide +kernel
theorem d6_26 : decode method_3_code 26 = .ok (.istore 9, 2) := by decide +kernel
theorem d6_28 : decode method_3_code 28 = .ok (.iload 8, 2) := by decide +kernel
theorem d6_30 : decode method_3_code 30 = .ok (.ifCond .eq 10, 3) := by decide +kernel
theorem d6_33 : decode method_3_code 33 = .ok (.iload 9, 2) := by decide +kernel
theorem d6_35 : decode method_3_code 35 = .ok (.ifCond .eq 5, 3) := by decide +kernel
theorem d6_38 : decode method_3_code 38 = .ok (.iconst 0, 1) := by decide +kernel
theorem d6_39 : decode method_3_code 39 = .ok (.ireturn, 1) := by decide +kernel
theorem d6_40 : decode method_3_code 40 = .ok (.iload 8, 2) := by decide +kernel
theorem d6_42 : decode method_3_code 42 = .ok (.ifCond .eq 5, 3) := by decide +kernel
theorem d6_45 : decode method_3_code 45 = .ok (.iconst 1, 1) := by decide +kernel
theorem d6_46 : decode method_3_code 46 = .ok (.ireturn, 1) := by decide +kernel
theorem d6_47 : decode method_3_code 47 = .ok (.iload 9, 2) := by decide +kernel
theorem d6_49 : decode method_3_code 49 = .ok (.ifCond .eq 5, 3) := by decide +kernel
theorem d6_52 : decode method_3_code 52 = .ok (.iconst (-1), 1) := by decide +kernel
theorem d6_53 : decode method_3_code 53 = .ok (.ireturn, 1) := by decide +kernel
theorem d6_54 : decode method_3_code 54 = .ok (.lload_n 0, 1) := by decide +kernel
theorem d6_55 : decode method_3_code 55 = .ok (.lload 6, 2) := by decide +kernel
theorem d6_57 : decode method_3_code 57 = .ok (.lmul, 1) := by decide +kernel
theorem d6_58 : decode method_3_code 58 = .ok (.lstore 10, 2) := by decide +kernel
theorem d6_60 : decode method_3_code 60 = .ok (.lload 4, 2) := by decide +kernel
theorem d6_62 : decode method_3_code 62 = .ok (.lload_n 2, 1) := by decide +kernel
theorem d6_63 : decode method_3_code 63 = .ok (.lmul, 1) := by decide +kernel
theorem d6_64 : decode method_3_code 64 = .ok (.lstore 12, 2) := by decide +kernel
theorem d6_66 : decode method_3_code 66 = .ok (.lload 10, 2) := by decide +kernel
theorem d6_68 : decode method_3_code 68 = .ok (.lload 12, 2) := by decide +kernel
theorem d6_70 : decode method_3_code 70 = .ok (.lcmp, 1) := by decide +kernel
theorem d6_71 : decode method_3_code 71 = .ok (.ifCond .le 7, 3) := by decide +kernel
theorem d6_74 : decode method_3_code 74 = .ok (.iconst 1, 1) := by decide +kernel
theorem d6_75 : decode method_3_code 75 = .ok (.goto 16, 3) := by decide +kernel
theorem d6_78 : decode method_3_code 78 = .ok (.lload 10, 2) := by decide +kernel
theorem d6_80 : decode method_3_code 80 = .ok (.lload 12, 2) := by decide +kernel
theorem d6_82 : decode method_3_code 82 = .ok (.lcmp, 1) := by decide +kernel
theorem d6_83 : decode method_3_code 83 = .ok (.ifCond .ge 7, 3) := by decide +kernel
theorem d6_86 : decode method_3_code 86 = .ok (.iconst (-1), 1) := by decide +kernel
theorem d6_87 : decode method_3_code 87 = .ok (.goto 4, 3) := by decide +kernel
theorem d6_90 : decode method_3_code 90 = .ok (.iconst 0, 1) := by decide +kernel
theorem d6_91 : decode method_3_code 91 = .ok (.ireturn, 1) := by decide +kernel
theorem ef_6_2 (m : MethodId) (q0 : Int64) (q1 : Int64) (q2 : Int64) (q3 : Int64) : entryFrame m #[(.long q0), (.long q1), (.long q2), (.long q3)] 14 = mkF m 0 #[.val (.long q0), .second, .val (.long q1), .second, .val (.long q2), .second, .val (.long q3), .second, .unset, .unset, .unset, .unset, .unset, .unset] [] := by first | (simp [entryFrame, mkF, argsToLocals, Value.category]; done) | rfl
theorem pn_com_example_word_odds_wordodds_odds_OddsWordProbabilityPinLaw : plainName "com/example/word_odds/wordodds/odds/OddsWordProbabilityPinLaw" = true := by first | (simp [plainName, overriddenIn]; done) | decide +kernel
def Q_rm6 (Z : State) (q0 : Int64) (q1 : Int64) (q2 : Int64) (q3 : Int64)  (h0 : Heap) (n0 : Nat) (v : Option Value) (h : Heap) (L : List Loc) : Prop := ∃ z : Int32, v = some (.int z) ∧ own_C q0 q1 q2 q3 z ∧ Fr n0 L ∧ h = h0
set_option maxRecDepth 65536 in
set_option maxHeartbeats 40000000 in
theorem rm6 (l : Launch) (Z : State) (a0 : Array Value) (hw : ∀ d ∈ tables_1, d.before a0 Z = true) (ws : List Jvm.Cond) (q0 : Int64) (q1 : Int64) (q2 : Int64) (q3 : Int64)  (h0 : Heap) (n0 : Nat) (Z0 : n0 ≤ h0.size) (k0 : own_k q0) (k1 : own_k q1) (m2 : own_m q2) (k3 : own_k q3) :
    MetFree l (⟨"com/example/word_odds/wordodds/odds/OddsWordProbabilityPinLaw", "compare", "(JJJJ)I"⟩ : MethodName) (head1 (Jvm.Cond.code (⟨"com/example/word_odds/wordodds/odds/OddsWordProbabilityPinLaw", "compare", "(JJJJ)I"⟩ : MethodName) method_3_code 14 (some .int) :: ws) ({ frames := 0, cells := 0, slots := 0, locals := 0 } : Room)) (fun a U => a = #[(.long q0), (.long q1), (.long q2), (.long q3)] ∧ Z.Warmed39 U.vm ∧ U.heap = h0) (fun _ _ _ _ _ => True) (fun _ U o U' => ∃ v L, o = .returned v ∧ Q_rm6 Z q0 q1 q2 q3 h0 n0 v U'.heap L ∧ FrameEnd U o U' L ({ frames := 0, cells := 0, slots := 0, locals := 0 } : Room).cells ({ frames := 0, cells := 0, slots := 0, locals := 0 } : Room).slots) := by
  refine MetFree.of_bodySF (plainFor_of_name pn_com_example_word_odds_wordodds_odds_OddsWordProbabilityPinLaw) hisR ?_
  intro p e s m args below meth c s₁ Bd hml0 hP hK
  obtain ⟨rfl, hZ, hh⟩ := hP
  have hx := Bd.exec
  have hby := Bd.bytes
  have hlk := BodyLoose.notSynchronized Bd
  have hrt := Bd.returns
  have hml : c.maxLocals = 14 := hml0
  have hown : s.vm.findClass "com/example/word_odds/wordodds/odds/OddsWordProbabilityPinLaw" = some m.cls := findClass_of_methodNamed Bd.named
  have hnm := (name_of_methodNamed Bd.named Bd.method).1
  have X0 : Stand p l e ({ frames := 0, cells := 0, slots := 0, locals := 0 } : Room) s m #[(.long q0), (.long q1), (.long q2), (.long q3)] below meth c s₁ [] 0 0 := Stand.of_body Bd
  have e0 : s₁.heap = h0 := by rw [← hh, Bd.state]; rfl
  have N0 := Fr.nil n0
  have K0 : Keep h0 h0 [] := Keep.refl h0 _
  show Runs p e below (QE s (Q_rm6 Z q0 q1 q2 q3 h0 n0) ({ frames := 0, cells := 0, slots := 0, locals := 0 } : Room).cells ({ frames := 0, cells := 0, slots := 0, locals := 0 } : Room).slots) (s₁.setTop (entryFrame m #[(.long q0), (.long q1), (.long q2), (.long q3)] 14))
  rw [ef_6_2 m q0 q1 q2 q3]
  show Runs p e below _ (s₁.setTop (mkF m 0 #[.val (.long q0), .second, .val (.long q1), .second, .val (.long q2), .second, .val (.long q3), .second, .unset, .unset, .unset, .unset, .unset, .unset] []))
  refine Runs.by (fun _ hr => XS.lloadN X0.here hx rfl (hb hby d6_0) rfl  hr) ?_
  show Runs p e below _ (s₁.setTop (mkF m 1 #[.val (.long q0), .second, .val (.long q1), .second, .val (.long q2), .second, .val (.long q3), .second, .unset, .unset, .unset, .unset, .unset, .unset] [(.long q0)]))
  refine Runs.by (fun _ hr => XS.lloadN X0.here hx rfl (hb hby d6_1) rfl  hr) ?_
  show Runs p e below _ (s₁.setTop (mkF m 2 #[.val (.long q0), .second, .val (.long q1), .second, .val (.long q2), .second, .val (.long q3), .second, .unset, .unset, .unset, .unset, .unset, .unset] [(.long q1), (.long q0)]))
  refine Runs.by (fun _ hr => XS.lcmp X0.here hx rfl (hb hby d6_2) rfl hr) ?_
  show Runs p e below _ (s₁.setTop (mkF m 3 #[.val (.long q0), .second, .val (.long q1), .second, .val (.long q2), .second, .val (.long q3), .second, .unset, .unset, .unset, .unset, .unset, .unset] [(.int (lcmpW q0 q1))]))
  by_cases hc3 : (lcmpW q0 q1) < (0 : Int32)
  · -- pc 3: (lcmpW q0 q1) < (0 : Int32)
    refine Runs.by (fun _ hr => XS.ifYes X0.here hx rfl (pc0 := 3) (pc' := 10) rfl (hb hby d6_3) rfl ((if0 _ _).trans (tlt hc3).1) (by decide) (by decide) hr) ?_
    show Runs p e below _ (s₁.setTop (mkF m 10 #[.val (.long q0), .second, .val (.long q1), .second, .val (.long q2), .second, .val (.long q3), .second, .unset, .unset, .unset, .unset, .unset, .unset] []))
    refine Runs.by (fun _ hr => XS.iconst X0.here hx rfl (hb hby d6_10) hr) ?_
    show Runs p e below _ (s₁.setTop (mkF m 11 #[.val (.long q0), .second, .val (.long q1), .second, .val (.long q2), .second, .val (.long q3), .second, .unset, .unset, .unset, .unset, .unset, .unset] [(.int (0 : Int32))]))
    refine Runs.by (fun _ hr => XS.istore X0.here hx rfl (hb hby d6_11) rfl (l' := #[.val (.long q0), .second, .val (.long q1), .second, .val (.long q2), .second, .val (.long q3), .second, .val (.int (0 : Int32)), .unset, .unset, .unset, .unset, .unset]) rfl hr) ?_
    show Runs p e below _ (s₁.setTop (mkF m 13 #[.val (.long q0), .second, .val (.long q1), .second, .val (.long q2), .second, .val (.long q3), .second, .val (.int (0 : Int32)), .unset, .unset, .unset, .unset, .unset] []))
    refine Runs.by (fun _ hr => XS.lload X0.here hx rfl (hb hby d6_13) rfl  hr) ?_
    show Runs p e below _ (s₁.setTop (mkF m 15 #[.val (.long q0), .second, .val (.long q1), .second, .val (.long q2), .second, .val (.long q3), .second, .val (.int (0 : Int32)), .unset, .unset, .unset, .unset, .unset] [(.long q2)]))
    refine Runs.by (fun _ hr => XS.lload X0.here hx rfl (hb hby d6_15) rfl  hr) ?_
    show Runs p e below _ (s₁.setTop (mkF m 17 #[.val (.long q0), .second, .val (.long q1), .second, .val (.long q2), .second, .val (.long q3), .second, .val (.int (0 : Int32)), .unset, .unset, .unset, .unset, .unset] [(.long q3), (.long q2)]))
    refine Runs.by (fun _ hr => XS.lcmp X0.here hx rfl (hb hby d6_17) rfl hr) ?_
    show Runs p e below _ (s₁.setTop (mkF m 18 #[.val (.long q0), .second, .val (.long q1), .second, .val (.long q2), .second, .val (.long q3), .second, .val (.int (0 : Int32)), .unset, .unset, .unset, .unset, .unset] [(.int (lcmpW q2 q3))]))
    by_cases hc18 : (lcmpW q2 q3) < (0 : Int32)
    · -- pc 18: (lcmpW q2 q3) < (0 : Int32)
      refine Runs.by (fun _ hr => XS.ifYes X0.here hx rfl (pc0 := 18) (pc' := 25) rfl (hb hby d6_18) rfl ((if0 _ _).trans (tlt hc18).1) (by decide) (by decide) hr) ?_
      show Runs p e below _ (s₁.setTop (mkF m 25 #[.val (.long q0), .second, .val (.long q1), .second, .val (.long q2), .second, .val (.long q3), .second, .val (.int (0 : Int32)), .unset, .unset, .unset, .unset, .unset] []))
      refine Runs.by (fun _ hr => XS.iconst X0.here hx rfl (hb hby d6_25) hr) ?_
      show Runs p e below _ (s₁.setTop (mkF m 26 #[.val (.long q0), .second, .val (.long q1), .second, .val (.long q2), .second, .val (.long q3), .second, .val (.int (0 : Int32)), .unset, .unset, .unset, .unset, .unset] [(.int (0 : Int32))]))
      refine Runs.by (fun _ hr => XS.istore X0.here hx rfl (hb hby d6_26) rfl (l' := #[.val (.long q0), .second, .val (.long q1), .second, .val (.long q2), .second, .val (.long q3), .second, .val (.int (0 : Int32)), .val (.int (0 : Int32)), .unset, .unset, .unset, .unset]) rfl hr) ?_
      show Runs p e below _ (s₁.setTop (mkF m 28 #[.val (.long q0), .second, .val (.long q1), .second, .val (.long q2), .second, .val (.long q3), .second, .val (.int (0 : Int32)), .val (.int (0 : Int32)), .unset, .unset, .unset, .unset] []))
      refine Runs.by (fun _ hr => XS.iload X0.here hx rfl (hb hby d6_28) rfl  hr) ?_
      show Runs p e below _ (s₁.setTop (mkF m 30 #[.val (.long q0), .second, .val (.long q1), .second, .val (.long q2), .second, .val (.long q3), .second, .val (.int (0 : Int32)), .val (.int (0 : Int32)), .unset, .unset, .unset, .unset] [(.int (0 : Int32))]))
      have hc30 : (0 : Int32) = (0 : Int32) := (by decide)
      refine Runs.by (fun _ hr => XS.ifYes X0.here hx rfl (pc0 := 30) (pc' := 40) rfl (hb hby d6_30) rfl ((if0 _ _).trans (teq hc30).1) (by decide) (by decide) hr) ?_
      show Runs p e below _ (s₁.setTop (mkF m 40 #[.val (.long q0), .second, .val (.long q1), .second, .val (.long q2), .second, .val (.long q3), .second, .val (.int (0 : Int32)), .val (.int (0 : Int32)), .unset, .unset, .unset, .unset] []))
      refine Runs.by (fun _ hr => XS.iload X0.here hx rfl (hb hby d6_40) rfl  hr) ?_
      show Runs p e below _ (s₁.setTop (mkF m 42 #[.val (.long q0), .second, .val (.long q1), .second, .val (.long q2), .second, .val (.long q3), .second, .val (.int (0 : Int32)), .val (.int (0 : Int32)), .unset, .unset, .unset, .unset] [(.int (0 : Int32))]))
      have hc42 : (0 : Int32) = (0 : Int32) := (by decide)
      refine Runs.by (fun _ hr => XS.ifYes X0.here hx rfl (pc0 := 42) (pc' := 47) rfl (hb hby d6_42) rfl ((if0 _ _).trans (teq hc42).1) (by decide) (by decide) hr) ?_
      show Runs p e below _ (s₁.setTop (mkF m 47 #[.val (.long q0), .second, .val (.long q1), .second, .val (.long q2), .second, .val (.long q3), .second, .val (.int (0 : Int32)), .val (.int (0 : Int32)), .unset, .unset, .unset, .unset] []))
      refine Runs.by (fun _ hr => XS.iload X0.here hx rfl (hb hby d6_47) rfl  hr) ?_
      show Runs p e below _ (s₁.setTop (mkF m 49 #[.val (.long q0), .second, .val (.long q1), .second, .val (.long q2), .second, .val (.long q3), .second, .val (.int (0 : Int32)), .val (.int (0 : Int32)), .unset, .unset, .unset, .unset] [(.int (0 : Int32))]))
      have hc49 : (0 : Int32) = (0 : Int32) := (by decide)
      refine Runs.by (fun _ hr => XS.ifYes X0.here hx rfl (pc0 := 49) (pc' := 54) rfl (hb hby d6_49) rfl ((if0 _ _).trans (teq hc49).1) (by decide) (by decide) hr) ?_
      show Runs p e below _ (s₁.setTop (mkF m 54 #[.val (.long q0), .second, .val (.long q1), .second, .val (.long q2), .second, .val (.long q3), .second, .val (.int (0 : Int32)), .val (.int (0 : Int32)), .unset, .unset, .unset, .unset] []))
      refine Runs.by (fun _ hr => XS.lloadN X0.here hx rfl (hb hby d6_54) rfl  hr) ?_
      show Runs p e below _ (s₁.setTop (mkF m 55 #[.val (.long q0), .second, .val (.long q1), .second, .val (.long q2), .second, .val (.long q3), .second, .val (.int (0 : Int32)), .val (.int (0 : Int32)), .unset, .unset, .unset, .unset] [(.long q0)]))
      refine Runs.by (fun _ hr => XS.lload X0.here hx rfl (hb hby d6_55) rfl  hr) ?_
      show Runs p e below _ (s₁.setTop (mkF m 57 #[.val (.long q0), .second, .val (.long q1), .second, .val (.long q2), .second, .val (.long q3), .second, .val (.int (0 : Int32)), .val (.int (0 : Int32)), .unset, .unset, .unset, .unset] [(.long q3), (.long q0)]))
      refine Runs.by (fun _ hr => XS.lmul X0.here hx rfl (hb hby d6_57) rfl hr) ?_
      show Runs p e below _ (s₁.setTop (mkF m 58 #[.val (.long q0), .second, .val (.long q1), .second, .val (.long q2), .second, .val (.long q3), .second, .val (.int (0 : Int32)), .val (.int (0 : Int32)), .unset, .unset, .unset, .unset] [(.long (q0 * q3))]))
      refine Runs.by (fun _ hr => XS.lstore X0.here hx rfl (hb hby d6_58) rfl (l' := #[.val (.long q0), .second, .val (.long q1), .second, .val (.long q2), .second, .val (.long q3), .second, .val (.int (0 : Int32)), .val (.int (0 : Int32)), .val (.long (q0 * q3)), .second, .unset, .unset]) rfl hr) ?_
      show Runs p e below _ (s₁.setTop (mkF m 60 #[.val (.long q0), .second, .val (.long q1), .second, .val (.long q2), .second, .val (.long q3), .second, .val (.int (0 : Int32)), .val (.int (0 : Int32)), .val (.long (q0 * q3)), .second, .unset, .unset] []))
      refine Runs.by (fun _ hr => XS.lload X0.here hx rfl (hb hby d6_60) rfl  hr) ?_
      show Runs p e below _ (s₁.setTop (mkF m 62 #[.val (.long q0), .second, .val (.long q1), .second, .val (.long q2), .second, .val (.long q3), .second, .val (.int (0 : Int32)), .val (.int (0 : Int32)), .val (.long (q0 * q3)), .second, .unset, .unset] [(.long q2)]))
      refine Runs.by (fun _ hr => XS.lloadN X0.here hx rfl (hb hby d6_62) rfl  hr) ?_
      show Runs p e below _ (s₁.setTop (mkF m 63 #[.val (.long q0), .second, .val (.long q1), .second, .val (.long q2), .second, .val (.long q3), .second, .val (.int (0 : Int32)), .val (.int (0 : Int32)), .val (.long (q0 * q3)), .second, .unset, .unset] [(.long q1), (.long q2)]))
      refine Runs.by (fun _ hr => XS.lmul X0.here hx rfl (hb hby d6_63) rfl hr) ?_
      show Runs p e below _ (s₁.setTop (mkF m 64 #[.val (.long q0), .second, .val (.long q1), .second, .val (.long q2), .second, .val (.long q3), .second, .val (.int (0 : Int32)), .val (.int (0 : Int32)), .val (.long (q0 * q3)), .second, .unset, .unset] [(.long (q2 * q1))]))
      refine Runs.by (fun _ hr => XS.lstore X0.here hx rfl (hb hby d6_64) rfl (l' := #[.val (.long q0), .second, .val (.long q1), .second, .val (.long q2), .second, .val (.long q3), .second, .val (.int (0 : Int32)), .val (.int (0 : Int32)), .val (.long (q0 * q3)), .second, .val (.long (q2 * q1)), .second]) rfl hr) ?_
      show Runs p e below _ (s₁.setTop (mkF m 66 #[.val (.long q0), .second, .val (.long q1), .second, .val (.long q2), .second, .val (.long q3), .second, .val (.int (0 : Int32)), .val (.int (0 : Int32)), .val (.long (q0 * q3)), .second, .val (.long (q2 * q1)), .second] []))
      refine Runs.by (fun _ hr => XS.lload X0.here hx rfl (hb hby d6_66) rfl  hr) ?_
      show Runs p e below _ (s₁.setTop (mkF m 68 #[.val (.long q0), .second, .val (.long q1), .second, .val (.long q2), .second, .val (.long q3), .second, .val (.int (0 : Int32)), .val (.int (0 : Int32)), .val (.long (q0 * q3)), .second, .val (.long (q2 * q1)), .second] [(.long (q0 * q3))]))
      refine Runs.by (fun _ hr => XS.lload X0.here hx rfl (hb hby d6_68) rfl  hr) ?_
      show Runs p e below _ (s₁.setTop (mkF m 70 #[.val (.long q0), .second, .val (.long q1), .second, .val (.long q2), .second, .val (.long q3), .second, .val (.int (0 : Int32)), .val (.int (0 : Int32)), .val (.long (q0 * q3)), .second, .val (.long (q2 * q1)), .second] [(.long (q2 * q1)), (.long (q0 * q3))]))
      refine Runs.by (fun _ hr => XS.lcmp X0.here hx rfl (hb hby d6_70) rfl hr) ?_
      show Runs p e below _ (s₁.setTop (mkF m 71 #[.val (.long q0), .second, .val (.long q1), .second, .val (.long q2), .second, .val (.long q3), .second, .val (.int (0 : Int32)), .val (.int (0 : Int32)), .val (.long (q0 * q3)), .second, .val (.long (q2 * q1)), .second] [(.int (lcmpW (q0 * q3) (q2 * q1)))]))
      by_cases hc71 : (0 : Int32) < (lcmpW (q0 * q3) (q2 * q1))
      · -- pc 71: (0 : Int32) < (lcmpW (q0 * q3) (q2 * q1))
        refine Runs.by (fun _ hr => XS.ifNo X0.here hx rfl (hb hby d6_71) rfl ((if0 _ _).trans (tlt hc71).2.2.2) hr) ?_
        show Runs p e below _ (s₁.setTop (mkF m 74 #[.val (.long q0), .second, .val (.long q1), .second, .val (.long q2), .second, .val (.long q3), .second, .val (.int (0 : Int32)), .val (.int (0 : Int32)), .val (.long (q0 * q3)), .second, .val (.long (q2 * q1)), .second] []))
        refine Runs.by (fun _ hr => XS.iconst X0.here hx rfl (hb hby d6_74) hr) ?_
        show Runs p e below _ (s₁.setTop (mkF m 75 #[.val (.long q0), .second, .val (.long q1), .second, .val (.long q2), .second, .val (.long q3), .second, .val (.int (0 : Int32)), .val (.int (0 : Int32)), .val (.long (q0 * q3)), .second, .val (.long (q2 * q1)), .second] [(.int (1 : Int32))]))
        refine Runs.by (fun _ hr => XS.goto X0.here hx rfl (pc0 := 75) (pc' := 91) rfl (hb hby d6_75) (by decide) (by decide) hr) ?_
        show Runs p e below _ (s₁.setTop (mkF m 91 #[.val (.long q0), .second, .val (.long q1), .second, .val (.long q2), .second, .val (.long q3), .second, .val (.int (0 : Int32)), .val (.int (0 : Int32)), .val (.long (q0 * q3)), .second, .val (.long (q2 * q1)), .second] [(.int (1 : Int32))]))
        refine Runs.ret X0 hx hrt hlk (Or.inl ⟨rfl, by simp, _, rfl⟩) rfl (hb hby d6_91) (by decide) (by decide) ?_
        rw [e0]
        have e3 := own_lt.mp hc3
        have e18 := own_lt.mp hc18
        have ea := own_pm k0.m k3
        have eb := own_pm m2 k1
        have e71 := own_gt.mp hc71
        rw [ea, eb] at e71
        exact ⟨_, rfl, ⟨fun _ => Or.inr ⟨e18, e3, Int.le_of_lt e71⟩, fun hz => absurd hz (by decide)⟩, N0, rfl⟩
      · -- pc 71: not (0 : Int32) < (lcmpW (q0 * q3) (q2 * q1))
        refine Runs.by (fun _ hr => XS.ifYes X0.here hx rfl (pc0 := 71) (pc' := 78) rfl (hb hby d6_71) rfl ((if0 _ _).trans (flt hc71).2.2.2) (by decide) (by decide) hr) ?_
        show Runs p e below _ (s₁.setTop (mkF m 78 #[.val (.long q0), .second, .val (.long q1), .second, .val (.long q2), .second, .val (.long q3), .second, .val (.int (0 : Int32)), .val (.int (0 : Int32)), .val (.long (q0 * q3)), .second, .val (.long (q2 * q1)), .second] []))
        refine Runs.by (fun _ hr => XS.lload X0.here hx rfl (hb hby d6_78) rfl  hr) ?_
        show Runs p e below _ (s₁.setTop (mkF m 80 #[.val (.long q0), .second, .val (.long q1), .second, .val (.long q2), .second, .val (.long q3), .second, .val (.int (0 : Int32)), .val (.int (0 : Int32)), .val (.long (q0 * q3)), .second, .val (.long (q2 * q1)), .second] [(.long (q0 * q3))]))
        refine Runs.by (fun _ hr => XS.lload X0.here hx rfl (hb hby d6_80) rfl  hr) ?_
        show Runs p e below _ (s₁.setTop (mkF m 82 #[.val (.long q0), .second, .val (.long q1), .second, .val (.long q2), .second, .val (.long q3), .second, .val (.int (0 : Int32)), .val (.int (0 : Int32)), .val (.long (q0 * q3)), .second, .val (.long (q2 * q1)), .second] [(.long (q2 * q1)), (.long (q0 * q3))]))
        refine Runs.by (fun _ hr => XS.lcmp X0.here hx rfl (hb hby d6_82) rfl hr) ?_
        show Runs p e below _ (s₁.setTop (mkF m 83 #[.val (.long q0), .second, .val (.long q1), .second, .val (.long q2), .second, .val (.long q3), .second, .val (.int (0 : Int32)), .val (.int (0 : Int32)), .val (.long (q0 * q3)), .second, .val (.long (q2 * q1)), .second] [(.int (lcmpW (q0 * q3) (q2 * q1)))]))
        by_cases hc83 : (lcmpW (q0 * q3) (q2 * q1)) < (0 : Int32)
        · -- pc 83: (lcmpW (q0 * q3) (q2 * q1)) < (0 : Int32)
          refine Runs.by (fun _ hr => XS.ifNo X0.here hx rfl (hb hby d6_83) rfl ((if0 _ _).trans (tlt hc83).2.1) hr) ?_
          show Runs p e below _ (s₁.setTop (mkF m 86 #[.val (.long q0), .second, .val (.long q1), .second, .val (.long q2), .second, .val (.long q3), .second, .val (.int (0 : Int32)), .val (.int (0 : Int32)), .val (.long (q0 * q3)), .second, .val (.long (q2 * q1)), .second] []))
          refine Runs.by (fun _ hr => XS.iconst X0.here hx rfl (hb hby d6_86) hr) ?_
          show Runs p e below _ (s₁.setTop (mkF m 87 #[.val (.long q0), .second, .val (.long q1), .second, .val (.long q2), .second, .val (.long q3), .second, .val (.int (0 : Int32)), .val (.int (0 : Int32)), .val (.long (q0 * q3)), .second, .val (.long (q2 * q1)), .second] [(.int (-1 : Int32))]))
          refine Runs.by (fun _ hr => XS.goto X0.here hx rfl (pc0 := 87) (pc' := 91) rfl (hb hby d6_87) (by decide) (by decide) hr) ?_
          show Runs p e below _ (s₁.setTop (mkF m 91 #[.val (.long q0), .second, .val (.long q1), .second, .val (.long q2), .second, .val (.long q3), .second, .val (.int (0 : Int32)), .val (.int (0 : Int32)), .val (.long (q0 * q3)), .second, .val (.long (q2 * q1)), .second] [(.int (-1 : Int32))]))
          refine Runs.ret X0 hx hrt hlk (Or.inl ⟨rfl, by simp, _, rfl⟩) rfl (hb hby d6_91) (by decide) (by decide) ?_
          rw [e0]
          have e3 := own_lt.mp hc3
          have e18 := own_lt.mp hc18
          have ea := own_pm k0.m k3
          have eb := own_pm m2 k1
          have e71 := Int.not_lt.mp (fun z => hc71 (own_gt.mpr z))
          rw [ea, eb] at e71
          have e83 := own_lt.mp hc83
          rw [ea, eb] at e83
          exact ⟨_, rfl, ⟨fun hz => absurd hz (by decide), fun _ => Or.inr ⟨e18, e3, Int.le_of_lt e83⟩⟩, N0, rfl⟩
        · -- pc 83: not (lcmpW (q0 * q3) (q2 * q1)) < (0 : Int32)
          refine Runs.by (fun _ hr => XS.ifYes X0.here hx rfl (pc0 := 83) (pc' := 90) rfl (hb hby d6_83) rfl ((if0 _ _).trans (flt hc83).2.1) (by decide) (by decide) hr) ?_
          show Runs p e below _ (s₁.setTop (mkF m 90 #[.val (.long q0), .second, .val (.long q1), .second, .val (.long q2), .second, .val (.long q3), .second, .val (.int (0 : Int32)), .val (.int (0 : Int32)), .val (.long (q0 * q3)), .second, .val (.long (q2 * q1)), .second] []))
          refine Runs.by (fun _ hr => XS.iconst X0.here hx rfl (hb hby d6_90) hr) ?_
          show Runs p e below _ (s₁.setTop (mkF m 91 #[.val (.long q0), .second, .val (.long q1), .second, .val (.long q2), .second, .val (.long q3), .second, .val (.int (0 : Int32)), .val (.int (0 : Int32)), .val (.long (q0 * q3)), .second, .val (.long (q2 * q1)), .second] [(.int (0 : Int32))]))
          refine Runs.ret X0 hx hrt hlk (Or.inl ⟨rfl, by simp, _, rfl⟩) rfl (hb hby d6_91) (by decide) (by decide) ?_
          rw [e0]
          have e3 := own_lt.mp hc3
          have e18 := own_lt.mp hc18
          have ea := own_pm k0.m k3
          have eb := own_pm m2 k1
          have e71 := Int.not_lt.mp (fun z => hc71 (own_gt.mpr z))
          rw [ea, eb] at e71
          have e83 := Int.not_lt.mp (fun z => hc83 (own_lt.mpr z))
          rw [ea, eb] at e83
          exact ⟨_, rfl, ⟨fun _ => Or.inr ⟨e18, e3, e83⟩, fun _ => Or.inr ⟨e18, e3, e71⟩⟩, N0, rfl⟩
    · -- pc 18: not (lcmpW q2 q3) < (0 : Int32)
      refine Runs.by (fun _ hr => XS.ifNo X0.here hx rfl (hb hby d6_18) rfl ((if0 _ _).trans (flt hc18).1) hr) ?_
      show Runs p e below _ (s₁.setTop (mkF m 21 #[.val (.long q0), .second, .val (.long q1), .second, .val (.long q2), .second, .val (.long q3), .second, .val (.int (0 : Int32)), .unset, .unset, .unset, .unset, .unset] []))
      refine Runs.by (fun _ hr => XS.iconst X0.here hx rfl (hb hby d6_21) hr) ?_
      show Runs p e below _ (s₁.setTop (mkF m 22 #[.val (.long q0), .second, .val (.long q1), .second, .val (.long q2), .second, .val (.long q3), .second, .val (.int (0 : Int32)), .unset, .unset, .unset, .unset, .unset] [(.int (1 : Int32))]))
      refine Runs.by (fun _ hr => XS.goto X0.here hx rfl (pc0 := 22) (pc' := 26) rfl (hb hby d6_22) (by decide) (by decide) hr) ?_
      show Runs p e below _ (s₁.setTop (mkF m 26 #[.val (.long q0), .second, .val (.long q1), .second, .val (.long q2), .second, .val (.long q3), .second, .val (.int (0 : Int32)), .unset, .unset, .unset, .unset, .unset] [(.int (1 : Int32))]))
      refine Runs.by (fun _ hr => XS.istore X0.here hx rfl (hb hby d6_26) rfl (l' := #[.val (.long q0), .second, .val (.long q1), .second, .val (.long q2), .second, .val (.long q3), .second, .val (.int (0 : Int32)), .val (.int (1 : Int32)), .unset, .unset, .unset, .unset]) rfl hr) ?_
      show Runs p e below _ (s₁.setTop (mkF m 28 #[.val (.long q0), .second, .val (.long q1), .second, .val (.long q2), .second, .val (.long q3), .second, .val (.int (0 : Int32)), .val (.int (1 : Int32)), .unset, .unset, .unset, .unset] []))
      refine Runs.by (fun _ hr => XS.iload X0.here hx rfl (hb hby d6_28) rfl  hr) ?_
      show Runs p e below _ (s₁.setTop (mkF m 30 #[.val (.long q0), .second, .val (.long q1), .second, .val (.long q2), .second, .val (.long q3), .second, .val (.int (0 : Int32)), .val (.int (1 : Int32)), .unset, .unset, .unset, .unset] [(.int (0 : Int32))]))
      have hc30 : (0 : Int32) = (0 : Int32) := (by decide)
      refine Runs.by (fun _ hr => XS.ifYes X0.here hx rfl (pc0 := 30) (pc' := 40) rfl (hb hby d6_30) rfl ((if0 _ _).trans (teq hc30).1) (by decide) (by decide) hr) ?_
      show Runs p e below _ (s₁.setTop (mkF m 40 #[.val (.long q0), .second, .val (.long q1), .second, .val (.long q2), .second, .val (.long q3), .second, .val (.int (0 : Int32)), .val (.int (1 : Int32)), .unset, .unset, .unset, .unset] []))
      refine Runs.by (fun _ hr => XS.iload X0.here hx rfl (hb hby d6_40) rfl  hr) ?_
      show Runs p e below _ (s₁.setTop (mkF m 42 #[.val (.long q0), .second, .val (.long q1), .second, .val (.long q2), .second, .val (.long q3), .second, .val (.int (0 : Int32)), .val (.int (1 : Int32)), .unset, .unset, .unset, .unset] [(.int (0 : Int32))]))
      have hc42 : (0 : Int32) = (0 : Int32) := (by decide)
      refine Runs.by (fun _ hr => XS.ifYes X0.here hx rfl (pc0 := 42) (pc' := 47) rfl (hb hby d6_42) rfl ((if0 _ _).trans (teq hc42).1) (by decide) (by decide) hr) ?_
      show Runs p e below _ (s₁.setTop (mkF m 47 #[.val (.long q0), .second, .val (.long q1), .second, .val (.long q2), .second, .val (.long q3), .second, .val (.int (0 : Int32)), .val (.int (1 : Int32)), .unset, .unset, .unset, .unset] []))
      refine Runs.by (fun _ hr => XS.iload X0.here hx rfl (hb hby d6_47) rfl  hr) ?_
      show Runs p e below _ (s₁.setTop (mkF m 49 #[.val (.long q0), .second, .val (.long q1), .second, .val (.long q2), .second, .val (.long q3), .second, .val (.int (0 : Int32)), .val (.int (1 : Int32)), .unset, .unset, .unset, .unset] [(.int (1 : Int32))]))
      have hc49 : ¬ ((1 : Int32) = (0 : Int32)) := (by decide)
      refine Runs.by (fun _ hr => XS.ifNo X0.here hx rfl (hb hby d6_49) rfl ((if0 _ _).trans (feq hc49).1) hr) ?_
      show Runs p e below _ (s₁.setTop (mkF m 52 #[.val (.long q0), .second, .val (.long q1), .second, .val (.long q2), .second, .val (.long q3), .second, .val (.int (0 : Int32)), .val (.int (1 : Int32)), .unset, .unset, .unset, .unset] []))
      refine Runs.by (fun _ hr => XS.iconst X0.here hx rfl (hb hby d6_52) hr) ?_
      show Runs p e below _ (s₁.setTop (mkF m 53 #[.val (.long q0), .second, .val (.long q1), .second, .val (.long q2), .second, .val (.long q3), .second, .val (.int (0 : Int32)), .val (.int (1 : Int32)), .unset, .unset, .unset, .unset] [(.int (-1 : Int32))]))
      refine Runs.ret X0 hx hrt hlk (Or.inl ⟨rfl, by simp, _, rfl⟩) rfl (hb hby d6_53) (by decide) (by decide) ?_
      rw [e0]
      have e3 := own_lt.mp hc3
      have e18 := Int.not_lt.mp (fun z => hc18 (own_lt.mpr z))
      exact ⟨_, rfl, ⟨fun hz => absurd hz (by decide), fun _ => Or.inl e18⟩, N0, rfl⟩
  · -- pc 3: not (lcmpW q0 q1) < (0 : Int32)
    refine Runs.by (fun _ hr => XS.ifNo X0.here hx rfl (hb hby d6_3) rfl ((if0 _ _).trans (flt hc3).1) hr) ?_
    show Runs p e below _ (s₁.setTop (mkF m 6 #[.val (.long q0), .second, .val (.long q1), .second, .val (.long q2), .second, .val (.long q3), .second, .unset, .unset, .unset, .unset, .unset, .unset] []))
    refine Runs.by (fun _ hr => XS.iconst X0.here hx rfl (hb hby d6_6) hr) ?_
    show Runs p e below _ (s₁.setTop (mkF m 7 #[.val (.long q0), .second, .val (.long q1), .second, .val (.long q2), .second, .val (.long q3), .second, .unset, .unset, .unset, .unset, .unset, .unset] [(.int (1 : Int32))]))
    refine Runs.by (fun _ hr => XS.goto X0.here hx rfl (pc0 := 7) (pc' := 11) rfl (hb hby d6_7) (by decide) (by decide) hr) ?_
    show Runs p e below _ (s₁.setTop (mkF m 11 #[.val (.long q0), .second, .val (.long q1), .second, .val (.long q2), .second, .val (.long q3), .second, .unset, .unset, .unset, .unset, .unset, .unset] [(.int (1 : Int32))]))
    refine Runs.by (fun _ hr => XS.istore X0.here hx rfl (hb hby d6_11) rfl (l' := #[.val (.long q0), .second, .val (.long q1), .second, .val (.long q2), .second, .val (.long q3), .second, .val (.int (1 : Int32)), .unset, .unset, .unset, .unset, .unset]) rfl hr) ?_
    show Runs p e below _ (s₁.setTop (mkF m 13 #[.val (.long q0), .second, .val (.long q1), .second, .val (.long q2), .second, .val (.long q3), .second, .val (.int (1 : Int32)), .unset, .unset, .unset, .unset, .unset] []))
    refine Runs.by (fun _ hr => XS.lload X0.here hx rfl (hb hby d6_13) rfl  hr) ?_
    show Runs p e below _ (s₁.setTop (mkF m 15 #[.val (.long q0), .second, .val (.long q1), .second, .val (.long q2), .second, .val (.long q3), .second, .val (.int (1 : Int32)), .unset, .unset, .unset, .unset, .unset] [(.long q2)]))
    refine Runs.by (fun _ hr => XS.lload X0.here hx rfl (hb hby d6_15) rfl  hr) ?_
    show Runs p e below _ (s₁.setTop (mkF m 17 #[.val (.long q0), .second, .val (.long q1), .second, .val (.long q2), .second, .val (.long q3), .second, .val (.int (1 : Int32)), .unset, .unset, .unset, .unset, .unset] [(.long q3), (.long q2)]))
    refine Runs.by (fun _ hr => XS.lcmp X0.here hx rfl (hb hby d6_17) rfl hr) ?_
    show Runs p e below _ (s₁.setTop (mkF m 18 #[.val (.long q0), .second, .val (.long q1), .second, .val (.long q2), .second, .val (.long q3), .second, .val (.int (1 : Int32)), .unset, .unset, .unset, .unset, .unset] [(.int (lcmpW q2 q3))]))
    by_cases hc18 : (lcmpW q2 q3) < (0 : Int32)
    · -- pc 18: (lcmpW q2 q3) < (0 : Int32)
      refine Runs.by (fun _ hr => XS.ifYes X0.here hx rfl (pc0 := 18) (pc' := 25) rfl (hb hby d6_18) rfl ((if0 _ _).trans (tlt hc18).1) (by decide) (by decide) hr) ?_
      show Runs p e below _ (s₁.setTop (mkF m 25 #[.val (.long q0), .second, .val (.long q1), .second, .val (.long q2), .second, .val (.long q3), .second, .val (.int (1 : Int32)), .unset, .unset, .unset, .unset, .unset] []))
      refine Runs.by (fun _ hr => XS.iconst X0.here hx rfl (hb hby d6_25) hr) ?_
      show Runs p e below _ (s₁.setTop (mkF m 26 #[.val (.long q0), .second, .val (.long q1), .second, .val (.long q2), .second, .val (.long q3), .second, .val (.int (1 : Int32)), .unset, .unset, .unset, .unset, .unset] [(.int (0 : Int32))]))
      refine Runs.by (fun _ hr => XS.istore X0.here hx rfl (hb hby d6_26) rfl (l' := #[.val (.long q0), .second, .val (.long q1), .second, .val (.long q2), .second, .val (.long q3), .second, .val (.int (1 : Int32)), .val (.int (0 : Int32)), .unset, .unset, .unset, .unset]) rfl hr) ?_
      show Runs p e below _ (s₁.setTop (mkF m 28 #[.val (.long q0), .second, .val (.long q1), .second, .val (.long q2), .second, .val (.long q3), .second, .val (.int (1 : Int32)), .val (.int (0 : Int32)), .unset, .unset, .unset, .unset] []))
      refine Runs.by (fun _ hr => XS.iload X0.here hx rfl (hb hby d6_28) rfl  hr) ?_
      show Runs p e below _ (s₁.setTop (mkF m 30 #[.val (.long q0), .second, .val (.long q1), .second, .val (.long q2), .second, .val (.long q3), .second, .val (.int (1 : Int32)), .val (.int (0 : Int32)), .unset, .unset, .unset, .unset] [(.int (1 : Int32))]))
      have hc30 : ¬ ((1 : Int32) = (0 : Int32)) := (by decide)
      refine Runs.by (fun _ hr => XS.ifNo X0.here hx rfl (hb hby d6_30) rfl ((if0 _ _).trans (feq hc30).1) hr) ?_
      show Runs p e below _ (s₁.setTop (mkF m 33 #[.val (.long q0), .second, .val (.long q1), .second, .val (.long q2), .second, .val (.long q3), .second, .val (.int (1 : Int32)), .val (.int (0 : Int32)), .unset, .unset, .unset, .unset] []))
      refine Runs.by (fun _ hr => XS.iload X0.here hx rfl (hb hby d6_33) rfl  hr) ?_
      show Runs p e below _ (s₁.setTop (mkF m 35 #[.val (.long q0), .second, .val (.long q1), .second, .val (.long q2), .second, .val (.long q3), .second, .val (.int (1 : Int32)), .val (.int (0 : Int32)), .unset, .unset, .unset, .unset] [(.int (0 : Int32))]))
      have hc35 : (0 : Int32) = (0 : Int32) := (by decide)
      refine Runs.by (fun _ hr => XS.ifYes X0.here hx rfl (pc0 := 35) (pc' := 40) rfl (hb hby d6_35) rfl ((if0 _ _).trans (teq hc35).1) (by decide) (by decide) hr) ?_
      show Runs p e below _ (s₁.setTop (mkF m 40 #[.val (.long q0), .second, .val (.long q1), .second, .val (.long q2), .second, .val (.long q3), .second, .val (.int (1 : Int32)), .val (.int (0 : Int32)), .unset, .unset, .unset, .unset] []))
      refine Runs.by (fun _ hr => XS.iload X0.here hx rfl (hb hby d6_40) rfl  hr) ?_
      show Runs p e below _ (s₁.setTop (mkF m 42 #[.val (.long q0), .second, .val (.long q1), .second, .val (.long q2), .second, .val (.long q3), .second, .val (.int (1 : Int32)), .val (.int (0 : Int32)), .unset, .unset, .unset, .unset] [(.int (1 : Int32))]))
      have hc42 : ¬ ((1 : Int32) = (0 : Int32)) := (by decide)
      refine Runs.by (fun _ hr => XS.ifNo X0.here hx rfl (hb hby d6_42) rfl ((if0 _ _).trans (feq hc42).1) hr) ?_
      show Runs p e below _ (s₁.setTop (mkF m 45 #[.val (.long q0), .second, .val (.long q1), .second, .val (.long q2), .second, .val (.long q3), .second, .val (.int (1 : Int32)), .val (.int (0 : Int32)), .unset, .unset, .unset, .unset] []))
      refine Runs.by (fun _ hr => XS.iconst X0.here hx rfl (hb hby d6_45) hr) ?_
      show Runs p e below _ (s₁.setTop (mkF m 46 #[.val (.long q0), .second, .val (.long q1), .second, .val (.long q2), .second, .val (.long q3), .second, .val (.int (1 : Int32)), .val (.int (0 : Int32)), .unset, .unset, .unset, .unset] [(.int (1 : Int32))]))
      refine Runs.ret X0 hx hrt hlk (Or.inl ⟨rfl, by simp, _, rfl⟩) rfl (hb hby d6_46) (by decide) (by decide) ?_
      rw [e0]
      have e3 := Int.not_lt.mp (fun z => hc3 (own_lt.mpr z))
      have e18 := own_lt.mp hc18
      exact ⟨_, rfl, ⟨fun _ => Or.inl e3, fun hz => absurd hz (by decide)⟩, N0, rfl⟩
    · -- pc 18: not (lcmpW q2 q3) < (0 : Int32)
      refine Runs.by (fun _ hr => XS.ifNo X0.here hx rfl (hb hby d6_18) rfl ((if0 _ _).trans (flt hc18).1) hr) ?_
      show Runs p e below _ (s₁.setTop (mkF m 21 #[.val (.long q0), .second, .val (.long q1), .second, .val (.long q2), .second, .val (.long q3), .second, .val (.int (1 : Int32)), .unset, .unset, .unset, .unset, .unset] []))
      refine Runs.by (fun _ hr => XS.iconst X0.here hx rfl (hb hby d6_21) hr) ?_
      show Runs p e below _ (s₁.setTop (mkF m 22 #[.val (.long q0), .second, .val (.long q1), .second, .val (.long q2), .second, .val (.long q3), .second, .val (.int (1 : Int32)), .unset, .unset, .unset, .unset, .unset] [(.int (1 : Int32))]))
      refine Runs.by (fun _ hr => XS.goto X0.here hx rfl (pc0 := 22) (pc' := 26) rfl (hb hby d6_22) (by decide) (by decide) hr) ?_
      show Runs p e below _ (s₁.setTop (mkF m 26 #[.val (.long q0), .second, .val (.long q1), .second, .val (.long q2), .second, .val (.long q3), .second, .val (.int (1 : Int32)), .unset, .unset, .unset, .unset, .unset] [(.int (1 : Int32))]))
      refine Runs.by (fun _ hr => XS.istore X0.here hx rfl (hb hby d6_26) rfl (l' := #[.val (.long q0), .second, .val (.long q1), .second, .val (.long q2), .second, .val (.long q3), .second, .val (.int (1 : Int32)), .val (.int (1 : Int32)), .unset, .unset, .unset, .unset]) rfl hr) ?_
      show Runs p e below _ (s₁.setTop (mkF m 28 #[.val (.long q0), .second, .val (.long q1), .second, .val (.long q2), .second, .val (.long q3), .second, .val (.int (1 : Int32)), .val (.int (1 : Int32)), .unset, .unset, .unset, .unset] []))
      refine Runs.by (fun _ hr => XS.iload X0.here hx rfl (hb hby d6_28) rfl  hr) ?_
      show Runs p e below _ (s₁.setTop (mkF m 30 #[.val (.long q0), .second, .val (.long q1), .second, .val (.long q2), .second, .val (.long q3), .second, .val (.int (1 : Int32)), .val (.int (1 : Int32)), .unset, .unset, .unset, .unset] [(.int (1 : Int32))]))
      have hc30 : ¬ ((1 : Int32) = (0 : Int32)) := (by decide)
      refine Runs.by (fun _ hr => XS.ifNo X0.here hx rfl (hb hby d6_30) rfl ((if0 _ _).trans (feq hc30).1) hr) ?_
      show Runs p e below _ (s₁.setTop (mkF m 33 #[.val (.long q0), .second, .val (.long q1), .second, .val (.long q2), .second, .val (.long q3), .second, .val (.int (1 : Int32)), .val (.int (1 : Int32)), .unset, .unset, .unset, .unset] []))
      refine Runs.by (fun _ hr => XS.iload X0.here hx rfl (hb hby d6_33) rfl  hr) ?_
      show Runs p e below _ (s₁.setTop (mkF m 35 #[.val (.long q0), .second, .val (.long q1), .second, .val (.long q2), .second, .val (.long q3), .second, .val (.int (1 : Int32)), .val (.int (1 : Int32)), .unset, .unset, .unset, .unset] [(.int (1 : Int32))]))
      have hc35 : ¬ ((1 : Int32) = (0 : Int32)) := (by decide)
      refine Runs.by (fun _ hr => XS.ifNo X0.here hx rfl (hb hby d6_35) rfl ((if0 _ _).trans (feq hc35).1) hr) ?_
      show Runs p e below _ (s₁.setTop (mkF m 38 #[.val (.long q0), .second, .val (.long q1), .second, .val (.long q2), .second, .val (.long q3), .second, .val (.int (1 : Int32)), .val (.int (1 : Int32)), .unset, .unset, .unset, .unset] []))
      refine Runs.by (fun _ hr => XS.iconst X0.here hx rfl (hb hby d6_38) hr) ?_
      show Runs p e below _ (s₁.setTop (mkF m 39 #[.val (.long q0), .second, .val (.long q1), .second, .val (.long q2), .second, .val (.long q3), .second, .val (.int (1 : Int32)), .val (.int (1 : Int32)), .unset, .unset, .unset, .unset] [(.int (0 : Int32))]))
      refine Runs.ret X0 hx hrt hlk (Or.inl ⟨rfl, by simp, _, rfl⟩) rfl (hb hby d6_39) (by decide) (by decide) ?_
      rw [e0]
      have e3 := Int.not_lt.mp (fun z => hc3 (own_lt.mpr z))
      have e18 := Int.not_lt.mp (fun z => hc18 (own_lt.mpr z))
      exact ⟨_, rfl, ⟨fun _ => Or.inl e3, fun _ => Or.inl e18⟩, N0, rfl⟩
theorem d1_0 : decode method_2_code 0 = .ok (.iload_n 2, 1) := by decide +kernel
theorem d1_1 : decode method_2_code 1 = .ok (.iload_n 3, 1) := by decide +kernel
theorem d1_2 : decode method_2_code 2 = .ok (.iushr, 1) := by decide +kernel
theorem d1_3 : decode method_2_code 3 = .ok (.iconst 1, 1) := by decide +kernel
theorem d1_4 : decode method_2_code 4 = .ok (.iand, 1) := by decide +kernel
theorem d1_5 : decode method_2_code 5 = .ok (.ifCond .eq 11, 3) := by decide +kernel
theorem d1_8 : decode method_2_code 8 = .ok (.lload_n 0, 1) := by decide +kernel
theorem d1_9 : decode method_2_code 9 = .ok (.ldc2_w 7, 3) := by decide +kernel
theorem d1_12 : decode method_2_code 12 = .ok (.land, 1) := by decide +kernel
theorem d1_13 : decode method_2_code 13 = .ok (.goto 8, 3) := by decide +kernel
theorem d1_16 : decode method_2_code 16 = .ok (.lload_n 0, 1) := by decide +kernel
theorem d1_17 : decode method_2_code 17 = .ok (.ldc2_w 9, 3) := by decide +kernel
theorem d1_20 : decode method_2_code 20 = .ok (.land, 1) := by decide +kernel
theorem d1_21 : decode method_2_code 21 = .ok (.lreturn, 1) := by decide +kernel
theorem ef_1_3 (m : MethodId) (q0 : Int64) (p1 : Int32) (p2 : Int32) : entryFrame m #[(.long q0), (.int p1), (.int p2)] 4 = mkF m 0 #[.val (.long q0), .second, .val (.int p1), .val (.int p2)] [] := by first | (simp [entryFrame, mkF, argsToLocals, Value.category]; done) | rfl
def Q_rm1 (Z : State) (q0 : Int64) (p1 : Int32) (p2 : Int32)  (h0 : Heap) (n0 : Nat) (v : Option Value) (h : Heap) (L : List Loc) : Prop := ∃ z : Int64, v = some (.long z) ∧ own_k z ∧ Fr n0 L ∧ h = h0
set_option maxRecDepth 65536 in
set_option maxHeartbeats 40000000 in
theorem rm1 (l : Launch) (Z : State) (a0 : Array Value) (hw : ∀ d ∈ tables_1, d.before a0 Z = true) (ws : List Jvm.Cond) (q0 : Int64) (p1 : Int32) (p2 : Int32)  (h0 : Heap) (n0 : Nat) (Z0 : n0 ≤ h0.size) :
    MetFree l (⟨"com/example/word_odds/wordodds/odds/OddsWordProbabilityPinLaw", "pick", "(JII)J"⟩ : MethodName) (head1 (Jvm.Cond.code (⟨"com/example/word_odds/wordodds/odds/OddsWordProbabilityPinLaw", "pick", "(JII)J"⟩ : MethodName) method_2_code 4 (some .long) :: ws) ({ frames := 0, cells := 0, slots := 0, locals := 0 } : Room)) (fun a U => a = #[(.long q0), (.int p1), (.int p2)] ∧ Z.Warmed39 U.vm ∧ U.heap = h0) (fun _ _ _ _ _ => True) (fun _ U o U' => ∃ v L, o = .returned v ∧ Q_rm1 Z q0 p1 p2 h0 n0 v U'.heap L ∧ FrameEnd U o U' L ({ frames := 0, cells := 0, slots := 0, locals := 0 } : Room).cells ({ frames := 0, cells := 0, slots := 0, locals := 0 } : Room).slots) := by
  refine MetFree.of_bodySF (plainFor_of_name pn_com_example_word_odds_wordodds_odds_OddsWordProbabilityPinLaw) hisR ?_
  intro p e s m args below meth c s₁ Bd hml0 hP hK
  obtain ⟨rfl, hZ, hh⟩ := hP
  have hx := Bd.exec
  have hby := Bd.bytes
  have hlk := BodyLoose.notSynchronized Bd
  have hrt := Bd.returns
  have hml : c.maxLocals = 4 := hml0
  have hown : s.vm.findClass "com/example/word_odds/wordodds/odds/OddsWordProbabilityPinLaw" = some m.cls := findClass_of_methodNamed Bd.named
  have hnm := (name_of_methodNamed Bd.named Bd.method).1
  have X0 : Stand p l e ({ frames := 0, cells := 0, slots := 0, locals := 0 } : Room) s m #[(.long q0), (.int p1), (.int p2)] below meth c s₁ [] 0 0 := Stand.of_body Bd
  have e0 : s₁.heap = h0 := by rw [← hh, Bd.state]; rfl
  have N0 := Fr.nil n0
  have K0 : Keep h0 h0 [] := Keep.refl h0 _
  show Runs p e below (QE s (Q_rm1 Z q0 p1 p2 h0 n0) ({ frames := 0, cells := 0, slots := 0, locals := 0 } : Room).cells ({ frames := 0, cells := 0, slots := 0, locals := 0 } : Room).slots) (s₁.setTop (entryFrame m #[(.long q0), (.int p1), (.int p2)] 4))
  rw [ef_1_3 m q0 p1 p2]
  show Runs p e below _ (s₁.setTop (mkF m 0 #[.val (.long q0), .second, .val (.int p1), .val (.int p2)] []))
  refine Runs.by (fun _ hr => XS.iloadN X0.here hx rfl (hb hby d1_0) rfl  hr) ?_
  show Runs p e below _ (s₁.setTop (mkF m 1 #[.val (.long q0), .second, .val (.int p1), .val (.int p2)] [(.int p1)]))
  refine Runs.by (fun _ hr => XS.iloadN X0.here hx rfl (hb hby d1_1) rfl  hr) ?_
  show Runs p e below _ (s₁.setTop (mkF m 2 #[.val (.long q0), .second, .val (.int p1), .val (.int p2)] [(.int p2), (.int p1)]))
  refine Runs.by (fun _ hr => XS.iushr X0.here hx rfl (hb hby d1_2) rfl hr) ?_
  show Runs p e below _ (s₁.setTop (mkF m 3 #[.val (.long q0), .second, .val (.int p1), .val (.int p2)] [(.int ((p1.toUInt32 >>> (p2 &&& 31).toUInt32).toInt32))]))
  refine Runs.by (fun _ hr => XS.iconst X0.here hx rfl (hb hby d1_3) hr) ?_
  show Runs p e below _ (s₁.setTop (mkF m 4 #[.val (.long q0), .second, .val (.int p1), .val (.int p2)] [(.int (1 : Int32)), (.int ((p1.toUInt32 >>> (p2 &&& 31).toUInt32).toInt32))]))
  refine Runs.by (fun _ hr => XS.iand X0.here hx rfl (hb hby d1_4) rfl hr) ?_
  show Runs p e below _ (s₁.setTop (mkF m 5 #[.val (.long q0), .second, .val (.int p1), .val (.int p2)] [(.int (((p1.toUInt32 >>> (p2 &&& 31).toUInt32).toInt32) &&& (1 : Int32)))]))
  by_cases hc5 : (((p1.toUInt32 >>> (p2 &&& 31).toUInt32).toInt32) &&& (1 : Int32)) = (0 : Int32)
  · -- pc 5: (((p1.toUInt32 >>> (p2 &&& 31).toUInt32).toInt32) &&& (1 : Int32)) = (0 : Int32)
    refine Runs.by (fun _ hr => XS.ifYes X0.here hx rfl (pc0 := 5) (pc' := 16) rfl (hb hby d1_5) rfl ((if0 _ _).trans (teq hc5).1) (by decide) (by decide) hr) ?_
    show Runs p e below _ (s₁.setTop (mkF m 16 #[.val (.long q0), .second, .val (.int p1), .val (.int p2)] []))
    refine Runs.by (fun _ hr => XS.lloadN X0.here hx rfl (hb hby d1_16) rfl  hr) ?_
    show Runs p e below _ (s₁.setTop (mkF m 17 #[.val (.long q0), .second, .val (.int p1), .val (.int p2)] [(.long q0)]))
    refine Runs.by (fun _ hr => X0.ldc2J hx hown (mvT hZ (hw _ (List.mem_of_getElem? (i := 5) rfl))) (g := (mkF m 17 #[.val (.long q0), .second, .val (.int p1), .val (.int p2)] [(.long q0)])) rfl (hb hby d1_17) hr) ?_
    show Runs p e below _ (s₁.setTop (mkF m 20 #[.val (.long q0), .second, .val (.int p1), .val (.int p2)] [(.long (2147483647 : Int64)), (.long q0)]))
    refine Runs.by (fun _ hr => XS.land X0.here hx rfl (hb hby d1_20) rfl hr) ?_
    show Runs p e below _ (s₁.setTop (mkF m 21 #[.val (.long q0), .second, .val (.int p1), .val (.int p2)] [(.long (q0 &&& (2147483647 : Int64)))]))
    refine Runs.ret X0 hx hrt hlk (Or.inr (Or.inl ⟨rfl, rfl, _, rfl⟩)) rfl (hb hby d1_21) (by decide) (by decide) ?_
    rw [e0]
    exact ⟨_, rfl, own_kb _, N0, rfl⟩
  · -- pc 5: not (((p1.toUInt32 >>> (p2 &&& 31).toUInt32).toInt32) &&& (1 : Int32)) = (0 : Int32)
    refine Runs.by (fun _ hr => XS.ifNo X0.here hx rfl (hb hby d1_5) rfl ((if0 _ _).trans (feq hc5).1) hr) ?_
    show Runs p e below _ (s₁.setTop (mkF m 8 #[.val (.long q0), .second, .val (.int p1), .val (.int p2)] []))
    refine Runs.by (fun _ hr => XS.lloadN X0.here hx rfl (hb hby d1_8) rfl  hr) ?_
    show Runs p e below _ (s₁.setTop (mkF m 9 #[.val (.long q0), .second, .val (.int p1), .val (.int p2)] [(.long q0)]))
    refine Runs.by (fun _ hr => X0.ldc2J hx hown (mvT hZ (hw _ (List.mem_of_getElem? (i := 4) rfl))) (g := (mkF m 9 #[.val (.long q0), .second, .val (.int p1), .val (.int p2)] [(.long q0)])) rfl (hb hby d1_9) hr) ?_
    show Runs p e below _ (s₁.setTop (mkF m 12 #[.val (.long q0), .second, .val (.int p1), .val (.int p2)] [(.long (7 : Int64)), (.long q0)]))
    refine Runs.by (fun _ hr => XS.land X0.here hx rfl (hb hby d1_12) rfl hr) ?_
    show Runs p e below _ (s₁.setTop (mkF m 13 #[.val (.long q0), .second, .val (.int p1), .val (.int p2)] [(.long (q0 &&& (7 : Int64)))]))
    refine Runs.by (fun _ hr => XS.goto X0.here hx rfl (pc0 := 13) (pc' := 21) rfl (hb hby d1_13) (by decide) (by decide) hr) ?_
    show Runs p e below _ (s₁.setTop (mkF m 21 #[.val (.long q0), .second, .val (.int p1), .val (.int p2)] [(.long (q0 &&& (7 : Int64)))]))
    refine Runs.ret X0 hx hrt hlk (Or.inr (Or.inl ⟨rfl, rfl, _, rfl⟩)) rfl (hb hby d1_21) (by decide) (by decide) ?_
    rw [e0]
    exact ⟨_, rfl, own_ka _, N0, rfl⟩
theorem ef_0_4 (m : MethodId) (q0 : Int64) (q1 : Int64) (q2 : Int64) (q3 : Int64) (p4 : Int32) : entryFrame m #[(.long q0), (.long q1), (.long q2), (.long q3), (.int p4)] maxLocals = mkF m 0 #[.val (.long q0), .second, .val (.long q1), .second, .val (.long q2), .second, .val (.long q3), .second, .val (.int p4), .unset, .unset, .unset, .unset, .unset, .unset, .unset, .unset, .unset, .unset, .unset, .unset, .unset] [] := by first | (simp [entryFrame, mkF, argsToLocals, Value.category, maxLocals]; done) | rfl
def Q_rm0 (Z : State) (q0 : Int64) (q1 : Int64) (q2 : Int64) (q3 : Int64) (p4 : Int32)  (h0 : Heap) (n0 : Nat) (v : Option Value) (h : Heap) (L : List Loc) : Prop := v = some (.int 1) ∧ Fr n0 L
theorem pd_2 : parseMethodDescriptor "(JII)J" = some ⟨[.long, .int, .int], some .long⟩ := by decide +kernel
theorem pd_3 : parseMethodDescriptor "(JJJJ)D" = some ⟨[.long, .long, .long, .long], some .double⟩ := by decide +kernel
theorem pd_4 : parseMethodDescriptor "(JJJJ)I" = some ⟨[.long, .long, .long, .long], some .int⟩ := by decide +kernel
set_option maxRecDepth 65536 in
set_option maxHeartbeats 40000000 in
theorem rm0 (l : Launch) (Z : State) (a0 : Array Value) (hw : ∀ d ∈ tables_1, d.before a0 Z = true) (ws : List Jvm.Cond) (q0 : Int64) (q1 : Int64) (q2 : Int64) (q3 : Int64) (p4 : Int32)  (h0 : Heap) (n0 : Nat) (Z0 : n0 ≤ h0.size) :
    MetFree l x (head1 (Jvm.Cond.code x code maxLocals ret :: ws) room_1) (fun a U => a = #[(.long q0), (.long q1), (.long q2), (.long q3), (.int p4)] ∧ Z.Warmed39 U.vm ∧ U.heap = h0) (fun _ _ _ _ _ => True) (fun _ U o U' => ∃ v L, o = .returned v ∧ Q_rm0 Z q0 q1 q2 q3 p4 h0 n0 v U'.heap L ∧ FrameEnd U o U' L room_1.cells room_1.slots) := by
  refine MetFree.of_bodySF (plainFor_of_name pn_com_example_word_odds_wordodds_odds_OddsWordProbabilityPinLaw) hisR ?_
  intro p e s m args below meth c s₁ Bd hml0 hP hK
  obtain ⟨rfl, hZ, hh⟩ := hP
  have hx := Bd.exec
  have hby := Bd.bytes
  have hlk := BodyLoose.notSynchronized Bd
  have hrt := Bd.returns
  have hml : c.maxLocals = 22 := hml0
  have hown : s.vm.findClass "com/example/word_odds/wordodds/odds/OddsWordProbabilityPinLaw" = some m.cls := findClass_of_methodNamed Bd.named
  have hnm := (name_of_methodNamed Bd.named Bd.method).1
  have X0 : Stand p l e room_1 s m #[(.long q0), (.long q1), (.long q2), (.long q3), (.int p4)] below meth c s₁ [] 0 0 := Stand.of_body Bd
  have e0 : s₁.heap = h0 := by rw [← hh, Bd.state]; rfl
  have N0 := Fr.nil n0
  have K0 : Keep h0 h0 [] := Keep.refl h0 _
  show Runs p e below (QE s (Q_rm0 Z q0 q1 q2 q3 p4 h0 n0) room_1.cells room_1.slots) (s₁.setTop (entryFrame m #[(.long q0), (.long q1), (.long q2), (.long q3), (.int p4)] maxLocals))
  rw [ef_0_4 m q0 q1 q2 q3 p4]
  show Runs p e below _ (s₁.setTop (mkF m 0 #[.val (.long q0), .second, .val (.long q1), .second, .val (.long q2), .second, .val (.long q3), .second, .val (.int p4), .unset, .unset, .unset, .unset, .unset, .unset, .unset, .unset, .unset, .unset, .unset, .unset, .unset] []))
  refine Runs.by (fun _ hr => XS.lloadN X0.here hx rfl (hb hby at_0) rfl  hr) ?_
  show Runs p e below _ (s₁.setTop (mkF m 1 #[.val (.long q0), .second, .val (.long q1), .second, .val (.long q2), .second, .val (.long q3), .second, .val (.int p4), .unset, .unset, .unset, .unset, .unset, .unset, .unset, .unset, .unset, .unset, .unset, .unset, .unset] [(.long q0)]))
  refine Runs.by (fun _ hr => XS.iload X0.here hx rfl (hb hby at_1) rfl  hr) ?_
  show Runs p e below _ (s₁.setTop (mkF m 3 #[.val (.long q0), .second, .val (.long q1), .second, .val (.long q2), .second, .val (.long q3), .second, .val (.int p4), .unset, .unset, .unset, .unset, .unset, .unset, .unset, .unset, .unset, .unset, .unset, .unset, .unset] [(.int p4), (.long q0)]))
  refine Runs.by (fun _ hr => XS.iconst X0.here hx rfl (hb hby at_3) hr) ?_
  show Runs p e below _ (s₁.setTop (mkF m 4 #[.val (.long q0), .second, .val (.long q1), .second, .val (.long q2), .second, .val (.long q3), .second, .val (.int p4), .unset, .unset, .unset, .unset, .unset, .unset, .unset, .unset, .unset, .unset, .unset, .unset, .unset] [(.int (0 : Int32)), (.int p4), (.long q0)]))
  obtain ⟨_, _, ⟨T1, L1, k1, n1⟩, -, X1, ⟨Lc1, hQ1, l1, y1, z1⟩, st1⟩ := Jvm.LawKit.callS X0 hx (y := (⟨"com/example/word_odds/wordodds/odds/OddsWordProbabilityPinLaw", "pick", "(JII)J"⟩ : MethodName)) hown (mvT hZ (hw _ (List.mem_of_getElem? (i := 0) rfl))) (mvT hZ (hw _ (List.mem_of_getElem? (i := 1) rfl))) (mvT hZ (hw _ (List.mem_of_getElem? (i := 2) rfl))) (mvT hZ (hw _ (List.mem_of_getElem? (i := 3) rfl))) (by decide) (backOf (W := 0) (rm1 l Z a0 hw [] q0 p4 (0 : Int32) h0 n0 (Nat.le_trans Z0 K0.1) ) hZ (hw _ (List.mem_of_getElem? (i := 3) rfl)) (hw _ (List.mem_of_getElem? (i := 2) rfl)) (by decide) (by decide)) (g := (mkF m 4 #[.val (.long q0), .second, .val (.long q1), .second, .val (.long q2), .second, .val (.long q3), .second, .val (.int p4), .unset, .unset, .unset, .unset, .unset, .unset, .unset, .unset, .unset, .unset, .unset, .unset, .unset] [(.int (0 : Int32)), (.int p4), (.long q0)])) rfl (by rw [hml]; rfl) (argsL := [(.long q0), (.int p4), (.int (0 : Int32))]) (rest := []) (lenOf pd_2 rfl) rfl (by show 2 * 0 + _ ≤ _; exact Nat.le_of_eq rfl) (hb hby at_4) (fun _ _ => ⟨rfl, e0, (by decide : 0 + 0 ≤ _), (by decide : 0 + 0 ≤ _)⟩)
  dsimp only [Pt.U, Pt.locs, Pt.cells, Pt.slots] at X1 l1 y1 z1 st1 hQ1
  subst l1 y1 z1
  obtain ⟨z1, rfl, kz1, Nq1, eq1⟩ := hQ1
  have N1 := Fr.app N0 Nq1
  refine Runs.by (fun t hr => st1 t hr) ?_
  show Runs p e below _ (T1.setTop (mkF m 7 #[.val (.long q0), .second, .val (.long q1), .second, .val (.long q2), .second, .val (.long q3), .second, .val (.int p4), .unset, .unset, .unset, .unset, .unset, .unset, .unset, .unset, .unset, .unset, .unset, .unset, .unset] [(.long z1)]))
  refine Runs.by (fun _ hr => XS.lstore X1.here hx rfl (hb hby at_7) rfl (l' := #[.val (.long q0), .second, .val (.long q1), .second, .val (.long q2), .second, .val (.long q3), .second, .val (.int p4), .val (.long z1), .second, .unset, .unset, .unset, .unset, .unset, .unset, .unset, .unset, .unset, .unset, .unset]) rfl hr) ?_
  show Runs p e below _ (T1.setTop (mkF m 9 #[.val (.long q0), .second, .val (.long q1), .second, .val (.long q2), .second, .val (.long q3), .second, .val (.int p4), .val (.long z1), .second, .unset, .unset, .unset, .unset, .unset, .unset, .unset, .unset, .unset, .unset, .unset] []))
  refine Runs.by (fun _ hr => XS.lloadN X1.here hx rfl (hb hby at_9) rfl  hr) ?_
  show Runs p e below _ (T1.setTop (mkF m 10 #[.val (.long q0), .second, .val (.long q1), .second, .val (.long q2), .second, .val (.long q3), .second, .val (.int p4), .val (.long z1), .second, .unset, .unset, .unset, .unset, .unset, .unset, .unset, .unset, .unset, .unset, .unset] [(.long q1)]))
  refine Runs.by (fun _ hr => XS.iload X1.here hx rfl (hb hby at_10) rfl  hr) ?_
  show Runs p e below _ (T1.setTop (mkF m 12 #[.val (.long q0), .second, .val (.long q1), .second, .val (.long q2), .second, .val (.long q3), .second, .val (.int p4), .val (.long z1), .second, .unset, .unset, .unset, .unset, .unset, .unset, .unset, .unset, .unset, .unset, .unset] [(.int p4), (.long q1)]))
  refine Runs.by (fun _ hr => XS.iconst X1.here hx rfl (hb hby at_12) hr) ?_
  show Runs p e below _ (T1.setTop (mkF m 13 #[.val (.long q0), .second, .val (.long q1), .second, .val (.long q2), .second, .val (.long q3), .second, .val (.int p4), .val (.long z1), .second, .unset, .unset, .unset, .unset, .unset, .unset, .unset, .unset, .unset, .unset, .unset] [(.int (1 : Int32)), (.int p4), (.long q1)]))
  obtain ⟨_, _, ⟨T2, L2, k2, n2⟩, -, X2, ⟨Lc2, hQ2, l2, y2, z2⟩, st2⟩ := Jvm.LawKit.callS X1 hx (y := (⟨"com/example/word_odds/wordodds/odds/OddsWordProbabilityPinLaw", "pick", "(JII)J"⟩ : MethodName)) hown (mvT hZ (hw _ (List.mem_of_getElem? (i := 0) rfl))) (mvT hZ (hw _ (List.mem_of_getElem? (i := 1) rfl))) (mvT hZ (hw _ (List.mem_of_getElem? (i := 2) rfl))) (mvT hZ (hw _ (List.mem_of_getElem? (i := 3) rfl))) (by decide) (backOf (W := 0) (rm1 l Z a0 hw [] q1 p4 (1 : Int32) h0 n0 (Nat.le_trans Z0 K0.1) ) hZ (hw _ (List.mem_of_getElem? (i := 3) rfl)) (hw _ (List.mem_of_getElem? (i := 2) rfl)) (by decide) (by decide)) (g := (mkF m 13 #[.val (.long q0), .second, .val (.long q1), .second, .val (.long q2), .second, .val (.long q3), .second, .val (.int p4), .val (.long z1), .second, .unset, .unset, .unset, .unset, .unset, .unset, .unset, .unset, .unset, .unset, .unset] [(.int (1 : Int32)), (.int p4), (.long q1)])) rfl (by rw [hml]; rfl) (argsL := [(.long q1), (.int p4), (.int (1 : Int32))]) (rest := []) (lenOf pd_2 rfl) rfl (by show 2 * 0 + _ ≤ _; exact Nat.le_of_eq rfl) (hb hby at_13) (fun _ _ => ⟨rfl, eq1, (by decide : 0 + 0 ≤ _), (by decide : 0 + 0 ≤ _)⟩)
  dsimp only [Pt.U, Pt.locs, Pt.cells, Pt.slots] at X2 l2 y2 z2 st2 hQ2
  subst l2 y2 z2
  obtain ⟨z2, rfl, kz2, Nq2, eq2⟩ := hQ2
  have N2 := Fr.app N1 Nq2
  refine Runs.by (fun t hr => st2 t hr) ?_
  show Runs p e below _ (T2.setTop (mkF m 16 #[.val (.long q0), .second, .val (.long q1), .second, .val (.long q2), .second, .val (.long q3), .second, .val (.int p4), .val (.long z1), .second, .unset, .unset, .unset, .unset, .unset, .unset, .unset, .unset, .unset, .unset, .unset] [(.long z2)]))
  refine Runs.by (fun _ hr => XS.lstore X2.here hx rfl (hb hby at_16) rfl (l' := #[.val (.long q0), .second, .val (.long q1), .second, .val (.long q2), .second, .val (.long q3), .second, .val (.int p4), .val (.long z1), .second, .val (.long z2), .second, .unset, .unset, .unset, .unset, .unset, .unset, .unset, .unset, .unset]) rfl hr) ?_
  show Runs p e below _ (T2.setTop (mkF m 18 #[.val (.long q0), .second, .val (.long q1), .second, .val (.long q2), .second, .val (.long q3), .second, .val (.int p4), .val (.long z1), .second, .val (.long z2), .second, .unset, .unset, .unset, .unset, .unset, .unset, .unset, .unset, .unset] []))
  refine Runs.by (fun _ hr => XS.lload X2.here hx rfl (hb hby at_18) rfl  hr) ?_
  show Runs p e below _ (T2.setTop (mkF m 20 #[.val (.long q0), .second, .val (.long q1), .second, .val (.long q2), .second, .val (.long q3), .second, .val (.int p4), .val (.long z1), .second, .val (.long z2), .second, .unset, .unset, .unset, .unset, .unset, .unset, .unset, .unset, .unset] [(.long q2)]))
  refine Runs.by (fun _ hr => XS.iload X2.here hx rfl (hb hby at_20) rfl  hr) ?_
  show Runs p e below _ (T2.setTop (mkF m 22 #[.val (.long q0), .second, .val (.long q1), .second, .val (.long q2), .second, .val (.long q3), .second, .val (.int p4), .val (.long z1), .second, .val (.long z2), .second, .unset, .unset, .unset, .unset, .unset, .unset, .unset, .unset, .unset] [(.int p4), (.long q2)]))
  refine Runs.by (fun _ hr => XS.iconst X2.here hx rfl (hb hby at_22) hr) ?_
  show Runs p e below _ (T2.setTop (mkF m 23 #[.val (.long q0), .second, .val (.long q1), .second, .val (.long q2), .second, .val (.long q3), .second, .val (.int p4), .val (.long z1), .second, .val (.long z2), .second, .unset, .unset, .unset, .unset, .unset, .unset, .unset, .unset, .unset] [(.int (2 : Int32)), (.int p4), (.long q2)]))
  obtain ⟨_, _, ⟨T3, L3, k3, n3⟩, -, X3, ⟨Lc3, hQ3, l3, y3, z3⟩, st3⟩ := Jvm.LawKit.callS X2 hx (y := (⟨"com/example/word_odds/wordodds/odds/OddsWordProbabilityPinLaw", "pick", "(JII)J"⟩ : MethodName)) hown (mvT hZ (hw _ (List.mem_of_getElem? (i := 0) rfl))) (mvT hZ (hw _ (List.mem_of_getElem? (i := 1) rfl))) (mvT hZ (hw _ (List.mem_of_getElem? (i := 2) rfl))) (mvT hZ (hw _ (List.mem_of_getElem? (i := 3) rfl))) (by decide) (backOf (W := 0) (rm1 l Z a0 hw [] q2 p4 (2 : Int32) h0 n0 (Nat.le_trans Z0 K0.1) ) hZ (hw _ (List.mem_of_getElem? (i := 3) rfl)) (hw _ (List.mem_of_getElem? (i := 2) rfl)) (by decide) (by decide)) (g := (mkF m 23 #[.val (.long q0), .second, .val (.long q1), .second, .val (.long q2), .second, .val (.long q3), .second, .val (.int p4), .val (.long z1), .second, .val (.long z2), .second, .unset, .unset, .unset, .unset, .unset, .unset, .unset, .unset, .unset] [(.int (2 : Int32)), (.int p4), (.long q2)])) rfl (by rw [hml]; rfl) (argsL := [(.long q2), (.int p4), (.int (2 : Int32))]) (rest := []) (lenOf pd_2 rfl) rfl (by show 2 * 0 + _ ≤ _; exact Nat.le_of_eq rfl) (hb hby at_23) (fun _ _ => ⟨rfl, eq2, (by decide : 0 + 0 ≤ _), (by decide : 0 + 0 ≤ _)⟩)
  dsimp only [Pt.U, Pt.locs, Pt.cells, Pt.slots] at X3 l3 y3 z3 st3 hQ3
  subst l3 y3 z3
  obtain ⟨z3, rfl, kz3, Nq3, eq3⟩ := hQ3
  have N3 := Fr.app N2 Nq3
  refine Runs.by (fun t hr => st3 t hr) ?_
  show Runs p e below _ (T3.setTop (mkF m 26 #[.val (.long q0), .second, .val (.long q1), .second, .val (.long q2), .second, .val (.long q3), .second, .val (.int p4), .val (.long z1), .second, .val (.long z2), .second, .unset, .unset, .unset, .unset, .unset, .unset, .unset, .unset, .unset] [(.long z3)]))
  refine Runs.by (fun _ hr => XS.lstore X3.here hx rfl (hb hby at_26) rfl (l' := #[.val (.long q0), .second, .val (.long q1), .second, .val (.long q2), .second, .val (.long q3), .second, .val (.int p4), .val (.long z1), .second, .val (.long z2), .second, .val (.long z3), .second, .unset, .unset, .unset, .unset, .unset, .unset, .unset]) rfl hr) ?_
  show Runs p e below _ (T3.setTop (mkF m 28 #[.val (.long q0), .second, .val (.long q1), .second, .val (.long q2), .second, .val (.long q3), .second, .val (.int p4), .val (.long z1), .second, .val (.long z2), .second, .val (.long z3), .second, .unset, .unset, .unset, .unset, .unset, .unset, .unset] []))
  refine Runs.by (fun _ hr => XS.lload X3.here hx rfl (hb hby at_28) rfl  hr) ?_
  show Runs p e below _ (T3.setTop (mkF m 30 #[.val (.long q0), .second, .val (.long q1), .second, .val (.long q2), .second, .val (.long q3), .second, .val (.int p4), .val (.long z1), .second, .val (.long z2), .second, .val (.long z3), .second, .unset, .unset, .unset, .unset, .unset, .unset, .unset] [(.long q3)]))
  refine Runs.by (fun _ hr => XS.iload X3.here hx rfl (hb hby at_30) rfl  hr) ?_
  show Runs p e below _ (T3.setTop (mkF m 32 #[.val (.long q0), .second, .val (.long q1), .second, .val (.long q2), .second, .val (.long q3), .second, .val (.int p4), .val (.long z1), .second, .val (.long z2), .second, .val (.long z3), .second, .unset, .unset, .unset, .unset, .unset, .unset, .unset] [(.int p4), (.long q3)]))
  refine Runs.by (fun _ hr => XS.iconst X3.here hx rfl (hb hby at_32) hr) ?_
  show Runs p e below _ (T3.setTop (mkF m 33 #[.val (.long q0), .second, .val (.long q1), .second, .val (.long q2), .second, .val (.long q3), .second, .val (.int p4), .val (.long z1), .second, .val (.long z2), .second, .val (.long z3), .second, .unset, .unset, .unset, .unset, .unset, .unset, .unset] [(.int (3 : Int32)), (.int p4), (.long q3)]))
  obtain ⟨_, _, ⟨T4, L4, k4, n4⟩, -, X4, ⟨Lc4, hQ4, l4, y4, z4⟩, st4⟩ := Jvm.LawKit.callS X3 hx (y := (⟨"com/example/word_odds/wordodds/odds/OddsWordProbabilityPinLaw", "pick", "(JII)J"⟩ : MethodName)) hown (mvT hZ (hw _ (List.mem_of_getElem? (i := 0) rfl))) (mvT hZ (hw _ (List.mem_of_getElem? (i := 1) rfl))) (mvT hZ (hw _ (List.mem_of_getElem? (i := 2) rfl))) (mvT hZ (hw _ (List.mem_of_getElem? (i := 3) rfl))) (by decide) (backOf (W := 0) (rm1 l Z a0 hw [] q3 p4 (3 : Int32) h0 n0 (Nat.le_trans Z0 K0.1) ) hZ (hw _ (List.mem_of_getElem? (i := 3) rfl)) (hw _ (List.mem_of_getElem? (i := 2) rfl)) (by decide) (by decide)) (g := (mkF m 33 #[.val (.long q0), .second, .val (.long q1), .second, .val (.long q2), .second, .val (.long q3), .second, .val (.int p4), .val (.long z1), .second, .val (.long z2), .second, .val (.long z3), .second, .unset, .unset, .unset, .unset, .unset, .unset, .unset] [(.int (3 : Int32)), (.int p4), (.long q3)])) rfl (by rw [hml]; rfl) (argsL := [(.long q3), (.int p4), (.int (3 : Int32))]) (rest := []) (lenOf pd_2 rfl) rfl (by show 2 * 0 + _ ≤ _; exact Nat.le_of_eq rfl) (hb hby at_33) (fun _ _ => ⟨rfl, eq3, (by decide : 0 + 0 ≤ _), (by decide : 0 + 0 ≤ _)⟩)
  dsimp only [Pt.U, Pt.locs, Pt.cells, Pt.slots] at X4 l4 y4 z4 st4 hQ4
  subst l4 y4 z4
  obtain ⟨z4, rfl, kz4, Nq4, eq4⟩ := hQ4
  have N4 := Fr.app N3 Nq4
  refine Runs.by (fun t hr => st4 t hr) ?_
  show Runs p e below _ (T4.setTop (mkF m 36 #[.val (.long q0), .second, .val (.long q1), .second, .val (.long q2), .second, .val (.long q3), .second, .val (.int p4), .val (.long z1), .second, .val (.long z2), .second, .val (.long z3), .second, .unset, .unset, .unset, .unset, .unset, .unset, .unset] [(.long z4)]))
  refine Runs.by (fun _ hr => XS.lstore X4.here hx rfl (hb hby at_36) rfl (l' := #[.val (.long q0), .second, .val (.long q1), .second, .val (.long q2), .second, .val (.long q3), .second, .val (.int p4), .val (.long z1), .second, .val (.long z2), .second, .val (.long z3), .second, .val (.long z4), .second, .unset, .unset, .unset, .unset, .unset]) rfl hr) ?_
  show Runs p e below _ (T4.setTop (mkF m 38 #[.val (.long q0), .second, .val (.long q1), .second, .val (.long q2), .second, .val (.long q3), .second, .val (.int p4), .val (.long z1), .second, .val (.long z2), .second, .val (.long z3), .second, .val (.long z4), .second, .unset, .unset, .unset, .unset, .unset] []))
  refine Runs.by (fun _ hr => XS.lload X4.here hx rfl (hb hby at_38) rfl  hr) ?_
  show Runs p e below _ (T4.setTop (mkF m 40 #[.val (.long q0), .second, .val (.long q1), .second, .val (.long q2), .second, .val (.long q3), .second, .val (.int p4), .val (.long z1), .second, .val (.long z2), .second, .val (.long z3), .second, .val (.long z4), .second, .unset, .unset, .unset, .unset, .unset] [(.long z1)]))
  refine Runs.by (fun _ hr => XS.lload X4.here hx rfl (hb hby at_40) rfl  hr) ?_
  show Runs p e below _ (T4.setTop (mkF m 42 #[.val (.long q0), .second, .val (.long q1), .second, .val (.long q2), .second, .val (.long q3), .second, .val (.int p4), .val (.long z1), .second, .val (.long z2), .second, .val (.long z3), .second, .val (.long z4), .second, .unset, .unset, .unset, .unset, .unset] [(.long z2), (.long z1)]))
  refine Runs.by (fun _ hr => XS.lload X4.here hx rfl (hb hby at_42) rfl  hr) ?_
  show Runs p e below _ (T4.setTop (mkF m 44 #[.val (.long q0), .second, .val (.long q1), .second, .val (.long q2), .second, .val (.long q3), .second, .val (.int p4), .val (.long z1), .second, .val (.long z2), .second, .val (.long z3), .second, .val (.long z4), .second, .unset, .unset, .unset, .unset, .unset] [(.long z3), (.long z2), (.long z1)]))
  refine Runs.by (fun _ hr => XS.lload X4.here hx rfl (hb hby at_44) rfl  hr) ?_
  show Runs p e below _ (T4.setTop (mkF m 46 #[.val (.long q0), .second, .val (.long q1), .second, .val (.long q2), .second, .val (.long q3), .second, .val (.int p4), .val (.long z1), .second, .val (.long z2), .second, .val (.long z3), .second, .val (.long z4), .second, .unset, .unset, .unset, .unset, .unset] [(.long z4), (.long z3), (.long z2), (.long z1)]))
  obtain ⟨_, _, ⟨T5, L5, k5, n5⟩, -, X5, ⟨Lc5, hQ5, l5, y5, z5⟩, st5⟩ := Jvm.LawKit.callS X4 hx (y := (⟨"com/example/word_odds/wordodds/odds/Odds", "wordProbability", "(JJJJ)D"⟩ : MethodName)) hown (mvT hZ (hw _ (List.mem_of_getElem? (i := 6) rfl))) (mvT hZ (hw _ (List.mem_of_getElem? (i := 7) rfl))) (mvT hZ (hw _ (List.mem_of_getElem? (i := 8) rfl))) (mvT hZ (hw _ (List.mem_of_getElem? (i := 9) rfl))) (by decide) (backOf (W := 0) (rm2 l Z a0 hw [] z1 z2 z3 z4  h0 n0 (Nat.le_trans Z0 K0.1) kz1 kz2 kz3 kz4) hZ (hw _ (List.mem_of_getElem? (i := 9) rfl)) (hw _ (List.mem_of_getElem? (i := 8) rfl)) (by decide) (by decide)) (g := (mkF m 46 #[.val (.long q0), .second, .val (.long q1), .second, .val (.long q2), .second, .val (.long q3), .second, .val (.int p4), .val (.long z1), .second, .val (.long z2), .second, .val (.long z3), .second, .val (.long z4), .second, .unset, .unset, .unset, .unset, .unset] [(.long z4), (.long z3), (.long z2), (.long z1)])) rfl (by rw [hml]; rfl) (argsL := [(.long z1), (.long z2), (.long z3), (.long z4)]) (rest := []) (lenOf pd_3 rfl) rfl (by show 2 * 0 + _ ≤ _; exact Nat.le_of_eq rfl) (hb hby at_46) (fun _ _ => ⟨rfl, eq4, (by decide : 0 + 0 ≤ _), (by decide : 0 + 0 ≤ _)⟩)
  dsimp only [Pt.U, Pt.locs, Pt.cells, Pt.slots] at X5 l5 y5 z5 st5 hQ5
  subst l5 y5 z5
  obtain ⟨rfl, Nq5, eq5⟩ := hQ5
  have N5 := Fr.app N4 Nq5
  refine Runs.by (fun t hr => st5 t hr) ?_
  obtain ⟨P, hP⟩ : ∃ z, z = (own_P z1 z2 z3 z4) := ⟨_, rfl⟩
  show Runs p e below _ (T5.setTop (mkF m 49 #[.val (.long q0), .second, .val (.long q1), .second, .val (.long q2), .second, .val (.long q3), .second, .val (.int p4), .val (.long z1), .second, .val (.long z2), .second, .val (.long z3), .second, .val (.long z4), .second, .unset, .unset, .unset, .unset, .unset] [(.double (own_P z1 z2 z3 z4))]))
  rw [← hP]
  have LW := own_law kz1 kz2 kz3 kz4
  rw [← hP] at LW
  obtain ⟨nP, LA, LB, LC, LD⟩ := LW
  show Runs p e below _ (T5.setTop (mkF m 49 #[.val (.long q0), .second, .val (.long q1), .second, .val (.long q2), .second, .val (.long q3), .second, .val (.int p4), .val (.long z1), .second, .val (.long z2), .second, .val (.long z3), .second, .val (.long z4), .second, .unset, .unset, .unset, .unset, .unset] [(.double P)]))
  refine Runs.by (fun _ hr => XS.dstore X5.here hx rfl (hb hby at_49) rfl (l' := #[.val (.long q0), .second, .val (.long q1), .second, .val (.long q2), .second, .val (.long q3), .second, .val (.int p4), .val (.long z1), .second, .val (.long z2), .second, .val (.long z3), .second, .val (.long z4), .second, .val (.double P), .second, .unset, .unset, .unset]) rfl hr) ?_
  show Runs p e below _ (T5.setTop (mkF m 51 #[.val (.long q0), .second, .val (.long q1), .second, .val (.long q2), .second, .val (.long q3), .second, .val (.int p4), .val (.long z1), .second, .val (.long z2), .second, .val (.long z3), .second, .val (.long z4), .second, .val (.double P), .second, .unset, .unset, .unset] []))
  refine Runs.by (fun _ hr => XS.lload X5.here hx rfl (hb hby at_51) rfl  hr) ?_
  show Runs p e below _ (T5.setTop (mkF m 53 #[.val (.long q0), .second, .val (.long q1), .second, .val (.long q2), .second, .val (.long q3), .second, .val (.int p4), .val (.long z1), .second, .val (.long z2), .second, .val (.long z3), .second, .val (.long z4), .second, .val (.double P), .second, .unset, .unset, .unset] [(.long z2)]))
  refine Runs.by (fun _ hr => XS.lconst X5.here hx rfl (hb hby at_53) hr) ?_
  show Runs p e below _ (T5.setTop (mkF m 54 #[.val (.long q0), .second, .val (.long q1), .second, .val (.long q2), .second, .val (.long q3), .second, .val (.int p4), .val (.long z1), .second, .val (.long z2), .second, .val (.long z3), .second, .val (.long z4), .second, .val (.double P), .second, .unset, .unset, .unset] [(.long (0 : Int64)), (.long z2)]))
  refine Runs.by (fun _ hr => XS.lcmp X5.here hx rfl (hb hby at_54) rfl hr) ?_
  show Runs p e below _ (T5.setTop (mkF m 55 #[.val (.long q0), .second, .val (.long q1), .second, .val (.long q2), .second, .val (.long q3), .second, .val (.int p4), .val (.long z1), .second, .val (.long z2), .second, .val (.long z3), .second, .val (.long z4), .second, .val (.double P), .second, .unset, .unset, .unset] [(.int (lcmpW z2 (0 : Int64)))]))
  by_cases hc55 : (lcmpW z2 (0 : Int64)) = (0 : Int32)
  · -- pc 55: (lcmpW z2 (0 : Int64)) = (0 : Int32)
    refine Runs.by (fun _ hr => XS.ifYes X5.here hx rfl (pc0 := 55) (pc' := 65) rfl (hb hby at_55) rfl ((if0 _ _).trans (teq hc55).1) (by decide) (by decide) hr) ?_
    show Runs p e below _ (T5.setTop (mkF m 65 #[.val (.long q0), .second, .val (.long q1), .second, .val (.long q2), .second, .val (.long q3), .second, .val (.int p4), .val (.long z1), .second, .val (.long z2), .second, .val (.long z3), .second, .val (.long z4), .second, .val (.double P), .second, .unset, .unset, .unset] []))
    refine Runs.by (fun _ hr => XS.iconst X5.here hx rfl (hb hby at_65) hr) ?_
    show Runs p e below _ (T5.setTop (mkF m 66 #[.val (.long q0), .second, .val (.long q1), .second, .val (.long q2), .second, .val (.long q3), .second, .val (.int p4), .val (.long z1), .second, .val (.long z2), .second, .val (.long z3), .second, .val (.long z4), .second, .val (.double P), .second, .unset, .unset, .unset] [(.int (1 : Int32))]))
    refine Runs.by (fun _ hr => XS.goto X5.here hx rfl (pc0 := 66) (pc' := 70) rfl (hb hby at_66) (by decide) (by decide) hr) ?_
    show Runs p e below _ (T5.setTop (mkF m 70 #[.val (.long q0), .second, .val (.long q1), .second, .val (.long q2), .second, .val (.long q3), .second, .val (.int p4), .val (.long z1), .second, .val (.long z2), .second, .val (.long z3), .second, .val (.long z4), .second, .val (.double P), .second, .unset, .unset, .unset] [(.int (1 : Int32))]))
    refine Runs.by (fun _ hr => XS.istore X5.here hx rfl (hb hby at_70) rfl (l' := #[.val (.long q0), .second, .val (.long q1), .second, .val (.long q2), .second, .val (.long q3), .second, .val (.int p4), .val (.long z1), .second, .val (.long z2), .second, .val (.long z3), .second, .val (.long z4), .second, .val (.double P), .second, .val (.int (1 : Int32)), .unset, .unset]) rfl hr) ?_
    have gz : z2 = 0 ∨ z4 = 0 := Or.inl (own_lcz.mp hc55)
    show Runs p e below _ (T5.setTop (mkF m 72 #[.val (.long q0), .second, .val (.long q1), .second, .val (.long q2), .second, .val (.long q3), .second, .val (.int p4), .val (.long z1), .second, .val (.long z2), .second, .val (.long z3), .second, .val (.long z4), .second, .val (.double P), .second, .val (.int (1 : Int32)), .unset, .unset] []))
    refine Runs.by (fun _ hr => XS.lload X5.here hx rfl (hb hby at_72) rfl  hr) ?_
    show Runs p e below _ (T5.setTop (mkF m 74 #[.val (.long q0), .second, .val (.long q1), .second, .val (.long q2), .second, .val (.long q3), .second, .val (.int p4), .val (.long z1), .second, .val (.long z2), .second, .val (.long z3), .second, .val (.long z4), .second, .val (.double P), .second, .val (.int (1 : Int32)), .unset, .unset] [(.long z1)]))
    refine Runs.by (fun _ hr => XS.lconst X5.here hx rfl (hb hby at_74) hr) ?_
    show Runs p e below _ (T5.setTop (mkF m 75 #[.val (.long q0), .second, .val (.long q1), .second, .val (.long q2), .second, .val (.long q3), .second, .val (.int p4), .val (.long z1), .second, .val (.long z2), .second, .val (.long z3), .second, .val (.long z4), .second, .val (.double P), .second, .val (.int (1 : Int32)), .unset, .unset] [(.long (0 : Int64)), (.long z1)]))
    refine Runs.by (fun _ hr => XS.lcmp X5.here hx rfl (hb hby at_75) rfl hr) ?_
    show Runs p e below _ (T5.setTop (mkF m 76 #[.val (.long q0), .second, .val (.long q1), .second, .val (.long q2), .second, .val (.long q3), .second, .val (.int p4), .val (.long z1), .second, .val (.long z2), .second, .val (.long z3), .second, .val (.long z4), .second, .val (.double P), .second, .val (.int (1 : Int32)), .unset, .unset] [(.int (lcmpW z1 (0 : Int64)))]))
    by_cases hc76 : (lcmpW z1 (0 : Int64)) = (0 : Int32)
    · -- pc 76: (lcmpW z1 (0 : Int64)) = (0 : Int32)
      refine Runs.by (fun _ hr => XS.ifYes X5.here hx rfl (pc0 := 76) (pc' := 86) rfl (hb hby at_76) rfl ((if0 _ _).trans (teq hc76).1) (by decide) (by decide) hr) ?_
      show Runs p e below _ (T5.setTop (mkF m 86 #[.val (.long q0), .second, .val (.long q1), .second, .val (.long q2), .second, .val (.long q3), .second, .val (.int p4), .val (.long z1), .second, .val (.long z2), .second, .val (.long z3), .second, .val (.long z4), .second, .val (.double P), .second, .val (.int (1 : Int32)), .unset, .unset] []))
      refine Runs.by (fun _ hr => XS.iconst X5.here hx rfl (hb hby at_86) hr) ?_
      show Runs p e below _ (T5.setTop (mkF m 87 #[.val (.long q0), .second, .val (.long q1), .second, .val (.long q2), .second, .val (.long q3), .second, .val (.int p4), .val (.long z1), .second, .val (.long z2), .second, .val (.long z3), .second, .val (.long z4), .second, .val (.double P), .second, .val (.int (1 : Int32)), .unset, .unset] [(.int (1 : Int32))]))
      refine Runs.by (fun _ hr => XS.goto X5.here hx rfl (pc0 := 87) (pc' := 91) rfl (hb hby at_87) (by decide) (by decide) hr) ?_
      show Runs p e below _ (T5.setTop (mkF m 91 #[.val (.long q0), .second, .val (.long q1), .second, .val (.long q2), .second, .val (.long q3), .second, .val (.int p4), .val (.long z1), .second, .val (.long z2), .second, .val (.long z3), .second, .val (.long z4), .second, .val (.double P), .second, .val (.int (1 : Int32)), .unset, .unset] [(.int (1 : Int32))]))
      refine Runs.by (fun _ hr => XS.istore X5.here hx rfl (hb hby at_91) rfl (l' := #[.val (.long q0), .second, .val (.long q1), .second, .val (.long q2), .second, .val (.long q3), .second, .val (.int p4), .val (.long z1), .second, .val (.long z2), .second, .val (.long z3), .second, .val (.long z4), .second, .val (.double P), .second, .val (.int (1 : Int32)), .val (.int (1 : Int32)), .unset]) rfl hr) ?_
      have bz : z1 = 0 ∨ z3 = 0 := Or.inl (own_lcz.mp hc76)
      show Runs p e below _ (T5.setTop (mkF m 93 #[.val (.long q0), .second, .val (.long q1), .second, .val (.long q2), .second, .val (.long q3), .second, .val (.int p4), .val (.long z1), .second, .val (.long z2), .second, .val (.long z3), .second, .val (.long z4), .second, .val (.double P), .second, .val (.int (1 : Int32)), .val (.int (1 : Int32)), .unset] []))
      refine Runs.by (fun _ hr => X5.ldc2J hx hown (mvT hZ (hw _ (List.mem_of_getElem? (i := 24) rfl))) (g := (mkF m 93 #[.val (.long q0), .second, .val (.long q1), .second, .val (.long q2), .second, .val (.long q3), .second, .val (.int p4), .val (.long z1), .second, .val (.long z2), .second, .val (.long z3), .second, .val (.long z4), .second, .val (.double P), .second, .val (.int (1 : Int32)), .val (.int (1 : Int32)), .unset] [])) rfl (hb hby at_93) hr) ?_
      show Runs p e below _ (T5.setTop (mkF m 96 #[.val (.long q0), .second, .val (.long q1), .second, .val (.long q2), .second, .val (.long q3), .second, .val (.int p4), .val (.long z1), .second, .val (.long z2), .second, .val (.long z3), .second, .val (.long z4), .second, .val (.double P), .second, .val (.int (1 : Int32)), .val (.int (1 : Int32)), .unset] [(.long (2 : Int64))]))
      refine Runs.by (fun _ hr => XS.lload X5.here hx rfl (hb hby at_96) rfl  hr) ?_
      show Runs p e below _ (T5.setTop (mkF m 98 #[.val (.long q0), .second, .val (.long q1), .second, .val (.long q2), .second, .val (.long q3), .second, .val (.int p4), .val (.long z1), .second, .val (.long z2), .second, .val (.long z3), .second, .val (.long z4), .second, .val (.double P), .second, .val (.int (1 : Int32)), .val (.int (1 : Int32)), .unset] [(.long z2), (.long (2 : Int64))]))
      refine Runs.by (fun _ hr => XS.lmul X5.here hx rfl (hb hby at_98) rfl hr) ?_
      show Runs p e below _ (T5.setTop (mkF m 99 #[.val (.long q0), .second, .val (.long q1), .second, .val (.long q2), .second, .val (.long q3), .second, .val (.int p4), .val (.long z1), .second, .val (.long z2), .second, .val (.long z3), .second, .val (.long z4), .second, .val (.double P), .second, .val (.int (1 : Int32)), .val (.int (1 : Int32)), .unset] [(.long ((2 : Int64) * z2))]))
      refine Runs.by (fun _ hr => XS.lload X5.here hx rfl (hb hby at_99) rfl  hr) ?_
      show Runs p e below _ (T5.setTop (mkF m 101 #[.val (.long q0), .second, .val (.long q1), .second, .val (.long q2), .second, .val (.long q3), .second, .val (.int p4), .val (.long z1), .second, .val (.long z2), .second, .val (.long z3), .second, .val (.long z4), .second, .val (.double P), .second, .val (.int (1 : Int32)), .val (.int (1 : Int32)), .unset] [(.long z1), (.long ((2 : Int64) * z2))]))
      refine Runs.by (fun _ hr => XS.ladd X5.here hx rfl (hb hby at_101) rfl hr) ?_
      show Runs p e below _ (T5.setTop (mkF m 102 #[.val (.long q0), .second, .val (.long q1), .second, .val (.long q2), .second, .val (.long q3), .second, .val (.int p4), .val (.long z1), .second, .val (.long z2), .second, .val (.long z3), .second, .val (.long z4), .second, .val (.double P), .second, .val (.int (1 : Int32)), .val (.int (1 : Int32)), .unset] [(.long (((2 : Int64) * z2) + z1))]))
      refine Runs.by (fun _ hr => X5.ldc2J hx hown (mvT hZ (hw _ (List.mem_of_getElem? (i := 25) rfl))) (g := (mkF m 102 #[.val (.long q0), .second, .val (.long q1), .second, .val (.long q2), .second, .val (.long q3), .second, .val (.int p4), .val (.long z1), .second, .val (.long z2), .second, .val (.long z3), .second, .val (.long z4), .second, .val (.double P), .second, .val (.int (1 : Int32)), .val (.int (1 : Int32)), .unset] [(.long (((2 : Int64) * z2) + z1))])) rfl (hb hby at_102) hr) ?_
      show Runs p e below _ (T5.setTop (mkF m 105 #[.val (.long q0), .second, .val (.long q1), .second, .val (.long q2), .second, .val (.long q3), .second, .val (.int p4), .val (.long z1), .second, .val (.long z2), .second, .val (.long z3), .second, .val (.long z4), .second, .val (.double P), .second, .val (.int (1 : Int32)), .val (.int (1 : Int32)), .unset] [(.long (5 : Int64)), (.long (((2 : Int64) * z2) + z1))]))
      refine Runs.by (fun _ hr => XS.lcmp X5.here hx rfl (hb hby at_105) rfl hr) ?_
      show Runs p e below _ (T5.setTop (mkF m 106 #[.val (.long q0), .second, .val (.long q1), .second, .val (.long q2), .second, .val (.long q3), .second, .val (.int p4), .val (.long z1), .second, .val (.long z2), .second, .val (.long z3), .second, .val (.long z4), .second, .val (.double P), .second, .val (.int (1 : Int32)), .val (.int (1 : Int32)), .unset] [(.int (lcmpW (((2 : Int64) * z2) + z1) (5 : Int64)))]))
      by_cases hc106 : (lcmpW (((2 : Int64) * z2) + z1) (5 : Int64)) < (0 : Int32)
      · -- pc 106: (lcmpW (((2 : Int64) * z2) + z1) (5 : Int64)) < (0 : Int32)
        refine Runs.by (fun _ hr => XS.ifYes X5.here hx rfl (pc0 := 106) (pc' := 119) rfl (hb hby at_106) rfl ((if0 _ _).trans (tlt hc106).1) (by decide) (by decide) hr) ?_
        show Runs p e below _ (T5.setTop (mkF m 119 #[.val (.long q0), .second, .val (.long q1), .second, .val (.long q2), .second, .val (.long q3), .second, .val (.int p4), .val (.long z1), .second, .val (.long z2), .second, .val (.long z3), .second, .val (.long z4), .second, .val (.double P), .second, .val (.int (1 : Int32)), .val (.int (1 : Int32)), .unset] []))
        refine Runs.by (fun _ hr => XS.dload X5.here hx rfl (hb hby at_119) rfl  hr) ?_
        show Runs p e below _ (T5.setTop (mkF m 121 #[.val (.long q0), .second, .val (.long q1), .second, .val (.long q2), .second, .val (.long q3), .second, .val (.int p4), .val (.long z1), .second, .val (.long z2), .second, .val (.long z3), .second, .val (.long z4), .second, .val (.double P), .second, .val (.int (1 : Int32)), .val (.int (1 : Int32)), .unset] [(.double P)]))
        refine Runs.by (fun t hr => X5.ldc2DoubleC hx hown (mvT hZ (hw _ (List.mem_of_getElem? (i := 33) rfl))) (g := (mkF m 121 #[.val (.long q0), .second, .val (.long q1), .second, .val (.long q2), .second, .val (.long q3), .second, .val (.int p4), .val (.long z1), .second, .val (.long z2), .second, .val (.long z3), .second, .val (.long z4), .second, .val (.double P), .second, .val (.int (1 : Int32)), .val (.int (1 : Int32)), .unset] [(.double P)])) rfl (hb hby at_121) t hr) ?_
        show Runs p e below _ (T5.setTop (mkF m 124 #[.val (.long q0), .second, .val (.long q1), .second, .val (.long q2), .second, .val (.long q3), .second, .val (.int p4), .val (.long z1), .second, .val (.long z2), .second, .val (.long z3), .second, .val (.long z4), .second, .val (.double P), .second, .val (.int (1 : Int32)), .val (.int (1 : Int32)), .unset] [(.double (4600877379321698714 : UInt64)), (.double P)]))
        refine Runs.by (fun _ hr => XS.dcmpS X5.here hx rfl (hb hby at_124) rfl rfl hr) ?_
        show Runs p e below _ (T5.setTop (mkF m 125 #[.val (.long q0), .second, .val (.long q1), .second, .val (.long q2), .second, .val (.long q3), .second, .val (.int p4), .val (.long z1), .second, .val (.long z2), .second, .val (.long z3), .second, .val (.long z4), .second, .val (.double P), .second, .val (.int (1 : Int32)), .val (.int (1 : Int32)), .unset] [(.int (cmpValue (FP.dcmp P (4600877379321698714 : UInt64)) .l))]))
        have hc125 : (cmpValue (FP.dcmp P (4600877379321698714 : UInt64)) .l) = (0 : Int32) := ((own_cz_eq nP own_nn04 _).mpr (LA (Or.inl (own_lt5.mp hc106))))
        refine Runs.by (fun _ hr => XS.ifNo X5.here hx rfl (hb hby at_125) rfl ((if0 _ _).trans (teq hc125).2) hr) ?_
        show Runs p e below _ (T5.setTop (mkF m 128 #[.val (.long q0), .second, .val (.long q1), .second, .val (.long q2), .second, .val (.long q3), .second, .val (.int p4), .val (.long z1), .second, .val (.long z2), .second, .val (.long z3), .second, .val (.long z4), .second, .val (.double P), .second, .val (.int (1 : Int32)), .val (.int (1 : Int32)), .unset] []))
        refine Runs.by (fun _ hr => XS.iconst X5.here hx rfl (hb hby at_128) hr) ?_
        show Runs p e below _ (T5.setTop (mkF m 129 #[.val (.long q0), .second, .val (.long q1), .second, .val (.long q2), .second, .val (.long q3), .second, .val (.int p4), .val (.long z1), .second, .val (.long z2), .second, .val (.long z3), .second, .val (.long z4), .second, .val (.double P), .second, .val (.int (1 : Int32)), .val (.int (1 : Int32)), .unset] [(.int (1 : Int32))]))
        refine Runs.by (fun _ hr => XS.goto X5.here hx rfl (pc0 := 129) (pc' := 133) rfl (hb hby at_129) (by decide) (by decide) hr) ?_
        show Runs p e below _ (T5.setTop (mkF m 133 #[.val (.long q0), .second, .val (.long q1), .second, .val (.long q2), .second, .val (.long q3), .second, .val (.int p4), .val (.long z1), .second, .val (.long z2), .second, .val (.long z3), .second, .val (.long z4), .second, .val (.double P), .second, .val (.int (1 : Int32)), .val (.int (1 : Int32)), .unset] [(.int (1 : Int32))]))
        refine Runs.ret X5 hx hrt hlk (Or.inl ⟨rfl, by simp, _, rfl⟩) (by rfl) (hb hby at_133) (by decide) (by decide) ?_
        rw [eq5]
        exact ⟨rfl, N5⟩
      · -- pc 106: not (lcmpW (((2 : Int64) * z2) + z1) (5 : Int64)) < (0 : Int32)
        refine Runs.by (fun _ hr => XS.ifNo X5.here hx rfl (hb hby at_106) rfl ((if0 _ _).trans (flt hc106).1) hr) ?_
        show Runs p e below _ (T5.setTop (mkF m 109 #[.val (.long q0), .second, .val (.long q1), .second, .val (.long q2), .second, .val (.long q3), .second, .val (.int p4), .val (.long z1), .second, .val (.long z2), .second, .val (.long z3), .second, .val (.long z4), .second, .val (.double P), .second, .val (.int (1 : Int32)), .val (.int (1 : Int32)), .unset] []))
        refine Runs.by (fun _ hr => XS.iload X5.here hx rfl (hb hby at_109) rfl  hr) ?_
        show Runs p e below _ (T5.setTop (mkF m 111 #[.val (.long q0), .second, .val (.long q1), .second, .val (.long q2), .second, .val (.long q3), .second, .val (.int p4), .val (.long z1), .second, .val (.long z2), .second, .val (.long z3), .second, .val (.long z4), .second, .val (.double P), .second, .val (.int (1 : Int32)), .val (.int (1 : Int32)), .unset] [(.int (1 : Int32))]))
        have hc111 : ¬ ((1 : Int32) = (0 : Int32)) := (by decide)
        refine Runs.by (fun _ hr => XS.ifNo X5.here hx rfl (hb hby at_111) rfl ((if0 _ _).trans (feq hc111).1) hr) ?_
        show Runs p e below _ (T5.setTop (mkF m 114 #[.val (.long q0), .second, .val (.long q1), .second, .val (.long q2), .second, .val (.long q3), .second, .val (.int p4), .val (.long z1), .second, .val (.long z2), .second, .val (.long z3), .second, .val (.long z4), .second, .val (.double P), .second, .val (.int (1 : Int32)), .val (.int (1 : Int32)), .unset] []))
        refine Runs.by (fun _ hr => XS.iload X5.here hx rfl (hb hby at_114) rfl  hr) ?_
        show Runs p e below _ (T5.setTop (mkF m 116 #[.val (.long q0), .second, .val (.long q1), .second, .val (.long q2), .second, .val (.long q3), .second, .val (.int p4), .val (.long z1), .second, .val (.long z2), .second, .val (.long z3), .second, .val (.long z4), .second, .val (.double P), .second, .val (.int (1 : Int32)), .val (.int (1 : Int32)), .unset] [(.int (1 : Int32))]))
        have hc116 : ¬ ((1 : Int32) = (0 : Int32)) := (by decide)
        refine Runs.by (fun _ hr => XS.ifNo X5.here hx rfl (hb hby at_116) rfl ((if0 _ _).trans (feq hc116).1) hr) ?_
        show Runs p e below _ (T5.setTop (mkF m 119 #[.val (.long q0), .second, .val (.long q1), .second, .val (.long q2), .second, .val (.long q3), .second, .val (.int p4), .val (.long z1), .second, .val (.long z2), .second, .val (.long z3), .second, .val (.long z4), .second, .val (.double P), .second, .val (.int (1 : Int32)), .val (.int (1 : Int32)), .unset] []))
        refine Runs.by (fun _ hr => XS.dload X5.here hx rfl (hb hby at_119) rfl  hr) ?_
        show Runs p e below _ (T5.setTop (mkF m 121 #[.val (.long q0), .second, .val (.long q1), .second, .val (.long q2), .second, .val (.long q3), .second, .val (.int p4), .val (.long z1), .second, .val (.long z2), .second, .val (.long z3), .second, .val (.long z4), .second, .val (.double P), .second, .val (.int (1 : Int32)), .val (.int (1 : Int32)), .unset] [(.double P)]))
        refine Runs.by (fun t hr => X5.ldc2DoubleC hx hown (mvT hZ (hw _ (List.mem_of_getElem? (i := 33) rfl))) (g := (mkF m 121 #[.val (.long q0), .second, .val (.long q1), .second, .val (.long q2), .second, .val (.long q3), .second, .val (.int p4), .val (.long z1), .second, .val (.long z2), .second, .val (.long z3), .second, .val (.long z4), .second, .val (.double P), .second, .val (.int (1 : Int32)), .val (.int (1 : Int32)), .unset] [(.double P)])) rfl (hb hby at_121) t hr) ?_
        show Runs p e below _ (T5.setTop (mkF m 124 #[.val (.long q0), .second, .val (.long q1), .second, .val (.long q2), .second, .val (.long q3), .second, .val (.int p4), .val (.long z1), .second, .val (.long z2), .second, .val (.long z3), .second, .val (.long z4), .second, .val (.double P), .second, .val (.int (1 : Int32)), .val (.int (1 : Int32)), .unset] [(.double (4600877379321698714 : UInt64)), (.double P)]))
        refine Runs.by (fun _ hr => XS.dcmpS X5.here hx rfl (hb hby at_124) rfl rfl hr) ?_
        show Runs p e below _ (T5.setTop (mkF m 125 #[.val (.long q0), .second, .val (.long q1), .second, .val (.long q2), .second, .val (.long q3), .second, .val (.int p4), .val (.long z1), .second, .val (.long z2), .second, .val (.long z3), .second, .val (.long z4), .second, .val (.double P), .second, .val (.int (1 : Int32)), .val (.int (1 : Int32)), .unset] [(.int (cmpValue (FP.dcmp P (4600877379321698714 : UInt64)) .l))]))
        have hc125 : (cmpValue (FP.dcmp P (4600877379321698714 : UInt64)) .l) = (0 : Int32) := ((own_cz_eq nP own_nn04 _).mpr (LA (Or.inr ⟨gz, bz⟩)))
        refine Runs.by (fun _ hr => XS.ifNo X5.here hx rfl (hb hby at_125) rfl ((if0 _ _).trans (teq hc125).2) hr) ?_
        show Runs p e below _ (T5.setTop (mkF m 128 #[.val (.long q0), .second, .val (.long q1), .second, .val (.long q2), .second, .val (.long q3), .second, .val (.int p4), .val (.long z1), .second, .val (.long z2), .second, .val (.long z3), .second, .val (.long z4), .second, .val (.double P), .second, .val (.int (1 : Int32)), .val (.int (1 : Int32)), .unset] []))
        refine Runs.by (fun _ hr => XS.iconst X5.here hx rfl (hb hby at_128) hr) ?_
        show Runs p e below _ (T5.setTop (mkF m 129 #[.val (.long q0), .second, .val (.long q1), .second, .val (.long q2), .second, .val (.long q3), .second, .val (.int p4), .val (.long z1), .second, .val (.long z2), .second, .val (.long z3), .second, .val (.long z4), .second, .val (.double P), .second, .val (.int (1 : Int32)), .val (.int (1 : Int32)), .unset] [(.int (1 : Int32))]))
        refine Runs.by (fun _ hr => XS.goto X5.here hx rfl (pc0 := 129) (pc' := 133) rfl (hb hby at_129) (by decide) (by decide) hr) ?_
        show Runs p e below _ (T5.setTop (mkF m 133 #[.val (.long q0), .second, .val (.long q1), .second, .val (.long q2), .second, .val (.long q3), .second, .val (.int p4), .val (.long z1), .second, .val (.long z2), .second, .val (.long z3), .second, .val (.long z4), .second, .val (.double P), .second, .val (.int (1 : Int32)), .val (.int (1 : Int32)), .unset] [(.int (1 : Int32))]))
        refine Runs.ret X5 hx hrt hlk (Or.inl ⟨rfl, by simp, _, rfl⟩) (by rfl) (hb hby at_133) (by decide) (by decide) ?_
        rw [eq5]
        exact ⟨rfl, N5⟩
    · -- pc 76: not (lcmpW z1 (0 : Int64)) = (0 : Int32)
      refine Runs.by (fun _ hr => XS.ifNo X5.here hx rfl (hb hby at_76) rfl ((if0 _ _).trans (feq hc76).1) hr) ?_
      show Runs p e below _ (T5.setTop (mkF m 79 #[.val (.long q0), .second, .val (.long q1), .second, .val (.long q2), .second, .val (.long q3), .second, .val (.int p4), .val (.long z1), .second, .val (.long z2), .second, .val (.long z3), .second, .val (.long z4), .second, .val (.double P), .second, .val (.int (1 : Int32)), .unset, .unset] []))
      refine Runs.by (fun _ hr => XS.lload X5.here hx rfl (hb hby at_79) rfl  hr) ?_
      show Runs p e below _ (T5.setTop (mkF m 81 #[.val (.long q0), .second, .val (.long q1), .second, .val (.long q2), .second, .val (.long q3), .second, .val (.int p4), .val (.long z1), .second, .val (.long z2), .second, .val (.long z3), .second, .val (.long z4), .second, .val (.double P), .second, .val (.int (1 : Int32)), .unset, .unset] [(.long z3)]))
      refine Runs.by (fun _ hr => XS.lconst X5.here hx rfl (hb hby at_81) hr) ?_
      show Runs p e below _ (T5.setTop (mkF m 82 #[.val (.long q0), .second, .val (.long q1), .second, .val (.long q2), .second, .val (.long q3), .second, .val (.int p4), .val (.long z1), .second, .val (.long z2), .second, .val (.long z3), .second, .val (.long z4), .second, .val (.double P), .second, .val (.int (1 : Int32)), .unset, .unset] [(.long (0 : Int64)), (.long z3)]))
      refine Runs.by (fun _ hr => XS.lcmp X5.here hx rfl (hb hby at_82) rfl hr) ?_
      show Runs p e below _ (T5.setTop (mkF m 83 #[.val (.long q0), .second, .val (.long q1), .second, .val (.long q2), .second, .val (.long q3), .second, .val (.int p4), .val (.long z1), .second, .val (.long z2), .second, .val (.long z3), .second, .val (.long z4), .second, .val (.double P), .second, .val (.int (1 : Int32)), .unset, .unset] [(.int (lcmpW z3 (0 : Int64)))]))
      by_cases hc83 : (lcmpW z3 (0 : Int64)) = (0 : Int32)
      · -- pc 83: (lcmpW z3 (0 : Int64)) = (0 : Int32)
        refine Runs.by (fun _ hr => XS.ifNo X5.here hx rfl (hb hby at_83) rfl ((if0 _ _).trans (teq hc83).2) hr) ?_
        show Runs p e below _ (T5.setTop (mkF m 86 #[.val (.long q0), .second, .val (.long q1), .second, .val (.long q2), .second, .val (.long q3), .second, .val (.int p4), .val (.long z1), .second, .val (.long z2), .second, .val (.long z3), .second, .val (.long z4), .second, .val (.double P), .second, .val (.int (1 : Int32)), .unset, .unset] []))
        refine Runs.by (fun _ hr => XS.iconst X5.here hx rfl (hb hby at_86) hr) ?_
        show Runs p e below _ (T5.setTop (mkF m 87 #[.val (.long q0), .second, .val (.long q1), .second, .val (.long q2), .second, .val (.long q3), .second, .val (.int p4), .val (.long z1), .second, .val (.long z2), .second, .val (.long z3), .second, .val (.long z4), .second, .val (.double P), .second, .val (.int (1 : Int32)), .unset, .unset] [(.int (1 : Int32))]))
        refine Runs.by (fun _ hr => XS.goto X5.here hx rfl (pc0 := 87) (pc' := 91) rfl (hb hby at_87) (by decide) (by decide) hr) ?_
        show Runs p e below _ (T5.setTop (mkF m 91 #[.val (.long q0), .second, .val (.long q1), .second, .val (.long q2), .second, .val (.long q3), .second, .val (.int p4), .val (.long z1), .second, .val (.long z2), .second, .val (.long z3), .second, .val (.long z4), .second, .val (.double P), .second, .val (.int (1 : Int32)), .unset, .unset] [(.int (1 : Int32))]))
        refine Runs.by (fun _ hr => XS.istore X5.here hx rfl (hb hby at_91) rfl (l' := #[.val (.long q0), .second, .val (.long q1), .second, .val (.long q2), .second, .val (.long q3), .second, .val (.int p4), .val (.long z1), .second, .val (.long z2), .second, .val (.long z3), .second, .val (.long z4), .second, .val (.double P), .second, .val (.int (1 : Int32)), .val (.int (1 : Int32)), .unset]) rfl hr) ?_
        have bz : z1 = 0 ∨ z3 = 0 := Or.inr (own_lcz.mp hc83)
        show Runs p e below _ (T5.setTop (mkF m 93 #[.val (.long q0), .second, .val (.long q1), .second, .val (.long q2), .second, .val (.long q3), .second, .val (.int p4), .val (.long z1), .second, .val (.long z2), .second, .val (.long z3), .second, .val (.long z4), .second, .val (.double P), .second, .val (.int (1 : Int32)), .val (.int (1 : Int32)), .unset] []))
        refine Runs.by (fun _ hr => X5.ldc2J hx hown (mvT hZ (hw _ (List.mem_of_getElem? (i := 24) rfl))) (g := (mkF m 93 #[.val (.long q0), .second, .val (.long q1), .second, .val (.long q2), .second, .val (.long q3), .second, .val (.int p4), .val (.long z1), .second, .val (.long z2), .second, .val (.long z3), .second, .val (.long z4), .second, .val (.double P), .second, .val (.int (1 : Int32)), .val (.int (1 : Int32)), .unset] [])) rfl (hb hby at_93) hr) ?_
        show Runs p e below _ (T5.setTop (mkF m 96 #[.val (.long q0), .second, .val (.long q1), .second, .val (.long q2), .second, .val (.long q3), .second, .val (.int p4), .val (.long z1), .second, .val (.long z2), .second, .val (.long z3), .second, .val (.long z4), .second, .val (.double P), .second, .val (.int (1 : Int32)), .val (.int (1 : Int32)), .unset] [(.long (2 : Int64))]))
        refine Runs.by (fun _ hr => XS.lload X5.here hx rfl (hb hby at_96) rfl  hr) ?_
        show Runs p e below _ (T5.setTop (mkF m 98 #[.val (.long q0), .second, .val (.long q1), .second, .val (.long q2), .second, .val (.long q3), .second, .val (.int p4), .val (.long z1), .second, .val (.long z2), .second, .val (.long z3), .second, .val (.long z4), .second, .val (.double P), .second, .val (.int (1 : Int32)), .val (.int (1 : Int32)), .unset] [(.long z2), (.long (2 : Int64))]))
        refine Runs.by (fun _ hr => XS.lmul X5.here hx rfl (hb hby at_98) rfl hr) ?_
        show Runs p e below _ (T5.setTop (mkF m 99 #[.val (.long q0), .second, .val (.long q1), .second, .val (.long q2), .second, .val (.long q3), .second, .val (.int p4), .val (.long z1), .second, .val (.long z2), .second, .val (.long z3), .second, .val (.long z4), .second, .val (.double P), .second, .val (.int (1 : Int32)), .val (.int (1 : Int32)), .unset] [(.long ((2 : Int64) * z2))]))
        refine Runs.by (fun _ hr => XS.lload X5.here hx rfl (hb hby at_99) rfl  hr) ?_
        show Runs p e below _ (T5.setTop (mkF m 101 #[.val (.long q0), .second, .val (.long q1), .second, .val (.long q2), .second, .val (.long q3), .second, .val (.int p4), .val (.long z1), .second, .val (.long z2), .second, .val (.long z3), .second, .val (.long z4), .second, .val (.double P), .second, .val (.int (1 : Int32)), .val (.int (1 : Int32)), .unset] [(.long z1), (.long ((2 : Int64) * z2))]))
        refine Runs.by (fun _ hr => XS.ladd X5.here hx rfl (hb hby at_101) rfl hr) ?_
        show Runs p e below _ (T5.setTop (mkF m 102 #[.val (.long q0), .second, .val (.long q1), .second, .val (.long q2), .second, .val (.long q3), .second, .val (.int p4), .val (.long z1), .second, .val (.long z2), .second, .val (.long z3), .second, .val (.long z4), .second, .val (.double P), .second, .val (.int (1 : Int32)), .val (.int (1 : Int32)), .unset] [(.long (((2 : Int64) * z2) + z1))]))
        refine Runs.by (fun _ hr => X5.ldc2J hx hown (mvT hZ (hw _ (List.mem_of_getElem? (i := 25) rfl))) (g := (mkF m 102 #[.val (.long q0), .second, .val (.long q1), .second, .val (.long q2), .second, .val (.long q3), .second, .val (.int p4), .val (.long z1), .second, .val (.long z2), .second, .val (.long z3), .second, .val (.long z4), .second, .val (.double P), .second, .val (.int (1 : Int32)), .val (.int (1 : Int32)), .unset] [(.long (((2 : Int64) * z2) + z1))])) rfl (hb hby at_102) hr) ?_
        show Runs p e below _ (T5.setTop (mkF m 105 #[.val (.long q0), .second, .val (.long q1), .second, .val (.long q2), .second, .val (.long q3), .second, .val (.int p4), .val (.long z1), .second, .val (.long z2), .second, .val (.long z3), .second, .val (.long z4), .second, .val (.double P), .second, .val (.int (1 : Int32)), .val (.int (1 : Int32)), .unset] [(.long (5 : Int64)), (.long (((2 : Int64) * z2) + z1))]))
        refine Runs.by (fun _ hr => XS.lcmp X5.here hx rfl (hb hby at_105) rfl hr) ?_
        show Runs p e below _ (T5.setTop (mkF m 106 #[.val (.long q0), .second, .val (.long q1), .second, .val (.long q2), .second, .val (.long q3), .second, .val (.int p4), .val (.long z1), .second, .val (.long z2), .second, .val (.long z3), .second, .val (.long z4), .second, .val (.double P), .second, .val (.int (1 : Int32)), .val (.int (1 : Int32)), .unset] [(.int (lcmpW (((2 : Int64) * z2) + z1) (5 : Int64)))]))
        by_cases hc106 : (lcmpW (((2 : Int64) * z2) + z1) (5 : Int64)) < (0 : Int32)
        · -- pc 106: (lcmpW (((2 : Int64) * z2) + z1) (5 : Int64)) < (0 : Int32)
          refine Runs.by (fun _ hr => XS.ifYes X5.here hx rfl (pc0 := 106) (pc' := 119) rfl (hb hby at_106) rfl ((if0 _ _).trans (tlt hc106).1) (by decide) (by decide) hr) ?_
          show Runs p e below _ (T5.setTop (mkF m 119 #[.val (.long q0), .second, .val (.long q1), .second, .val (.long q2), .second, .val (.long q3), .second, .val (.int p4), .val (.long z1), .second, .val (.long z2), .second, .val (.long z3), .second, .val (.long z4), .second, .val (.double P), .second, .val (.int (1 : Int32)), .val (.int (1 : Int32)), .unset] []))
          refine Runs.by (fun _ hr => XS.dload X5.here hx rfl (hb hby at_119) rfl  hr) ?_
          show Runs p e below _ (T5.setTop (mkF m 121 #[.val (.long q0), .second, .val (.long q1), .second, .val (.long q2), .second, .val (.long q3), .second, .val (.int p4), .val (.long z1), .second, .val (.long z2), .second, .val (.long z3), .second, .val (.long z4), .second, .val (.double P), .second, .val (.int (1 : Int32)), .val (.int (1 : Int32)), .unset] [(.double P)]))
          refine Runs.by (fun t hr => X5.ldc2DoubleC hx hown (mvT hZ (hw _ (List.mem_of_getElem? (i := 33) rfl))) (g := (mkF m 121 #[.val (.long q0), .second, .val (.long q1), .second, .val (.long q2), .second, .val (.long q3), .second, .val (.int p4), .val (.long z1), .second, .val (.long z2), .second, .val (.long z3), .second, .val (.long z4), .second, .val (.double P), .second, .val (.int (1 : Int32)), .val (.int (1 : Int32)), .unset] [(.double P)])) rfl (hb hby at_121) t hr) ?_
          show Runs p e below _ (T5.setTop (mkF m 124 #[.val (.long q0), .second, .val (.long q1), .second, .val (.long q2), .second, .val (.long q3), .second, .val (.int p4), .val (.long z1), .second, .val (.long z2), .second, .val (.long z3), .second, .val (.long z4), .second, .val (.double P), .second, .val (.int (1 : Int32)), .val (.int (1 : Int32)), .unset] [(.double (4600877379321698714 : UInt64)), (.double P)]))
          refine Runs.by (fun _ hr => XS.dcmpS X5.here hx rfl (hb hby at_124) rfl rfl hr) ?_
          show Runs p e below _ (T5.setTop (mkF m 125 #[.val (.long q0), .second, .val (.long q1), .second, .val (.long q2), .second, .val (.long q3), .second, .val (.int p4), .val (.long z1), .second, .val (.long z2), .second, .val (.long z3), .second, .val (.long z4), .second, .val (.double P), .second, .val (.int (1 : Int32)), .val (.int (1 : Int32)), .unset] [(.int (cmpValue (FP.dcmp P (4600877379321698714 : UInt64)) .l))]))
          have hc125 : (cmpValue (FP.dcmp P (4600877379321698714 : UInt64)) .l) = (0 : Int32) := ((own_cz_eq nP own_nn04 _).mpr (LA (Or.inl (own_lt5.mp hc106))))
          refine Runs.by (fun _ hr => XS.ifNo X5.here hx rfl (hb hby at_125) rfl ((if0 _ _).trans (teq hc125).2) hr) ?_
          show Runs p e below _ (T5.setTop (mkF m 128 #[.val (.long q0), .second, .val (.long q1), .second, .val (.long q2), .second, .val (.long q3), .second, .val (.int p4), .val (.long z1), .second, .val (.long z2), .second, .val (.long z3), .second, .val (.long z4), .second, .val (.double P), .second, .val (.int (1 : Int32)), .val (.int (1 : Int32)), .unset] []))
          refine Runs.by (fun _ hr => XS.iconst X5.here hx rfl (hb hby at_128) hr) ?_
          show Runs p e below _ (T5.setTop (mkF m 129 #[.val (.long q0), .second, .val (.long q1), .second, .val (.long q2), .second, .val (.long q3), .second, .val (.int p4), .val (.long z1), .second, .val (.long z2), .second, .val (.long z3), .second, .val (.long z4), .second, .val (.double P), .second, .val (.int (1 : Int32)), .val (.int (1 : Int32)), .unset] [(.int (1 : Int32))]))
          refine Runs.by (fun _ hr => XS.goto X5.here hx rfl (pc0 := 129) (pc' := 133) rfl (hb hby at_129) (by decide) (by decide) hr) ?_
          show Runs p e below _ (T5.setTop (mkF m 133 #[.val (.long q0), .second, .val (.long q1), .second, .val (.long q2), .second, .val (.long q3), .second, .val (.int p4), .val (.long z1), .second, .val (.long z2), .second, .val (.long z3), .second, .val (.long z4), .second, .val (.double P), .second, .val (.int (1 : Int32)), .val (.int (1 : Int32)), .unset] [(.int (1 : Int32))]))
          refine Runs.ret X5 hx hrt hlk (Or.inl ⟨rfl, by simp, _, rfl⟩) (by rfl) (hb hby at_133) (by decide) (by decide) ?_
          rw [eq5]
          exact ⟨rfl, N5⟩
        · -- pc 106: not (lcmpW (((2 : Int64) * z2) + z1) (5 : Int64)) < (0 : Int32)
          refine Runs.by (fun _ hr => XS.ifNo X5.here hx rfl (hb hby at_106) rfl ((if0 _ _).trans (flt hc106).1) hr) ?_
          show Runs p e below _ (T5.setTop (mkF m 109 #[.val (.long q0), .second, .val (.long q1), .second, .val (.long q2), .second, .val (.long q3), .second, .val (.int p4), .val (.long z1), .second, .val (.long z2), .second, .val (.long z3), .second, .val (.long z4), .second, .val (.double P), .second, .val (.int (1 : Int32)), .val (.int (1 : Int32)), .unset] []))
          refine Runs.by (fun _ hr => XS.iload X5.here hx rfl (hb hby at_109) rfl  hr) ?_
          show Runs p e below _ (T5.setTop (mkF m 111 #[.val (.long q0), .second, .val (.long q1), .second, .val (.long q2), .second, .val (.long q3), .second, .val (.int p4), .val (.long z1), .second, .val (.long z2), .second, .val (.long z3), .second, .val (.long z4), .second, .val (.double P), .second, .val (.int (1 : Int32)), .val (.int (1 : Int32)), .unset] [(.int (1 : Int32))]))
          have hc111 : ¬ ((1 : Int32) = (0 : Int32)) := (by decide)
          refine Runs.by (fun _ hr => XS.ifNo X5.here hx rfl (hb hby at_111) rfl ((if0 _ _).trans (feq hc111).1) hr) ?_
          show Runs p e below _ (T5.setTop (mkF m 114 #[.val (.long q0), .second, .val (.long q1), .second, .val (.long q2), .second, .val (.long q3), .second, .val (.int p4), .val (.long z1), .second, .val (.long z2), .second, .val (.long z3), .second, .val (.long z4), .second, .val (.double P), .second, .val (.int (1 : Int32)), .val (.int (1 : Int32)), .unset] []))
          refine Runs.by (fun _ hr => XS.iload X5.here hx rfl (hb hby at_114) rfl  hr) ?_
          show Runs p e below _ (T5.setTop (mkF m 116 #[.val (.long q0), .second, .val (.long q1), .second, .val (.long q2), .second, .val (.long q3), .second, .val (.int p4), .val (.long z1), .second, .val (.long z2), .second, .val (.long z3), .second, .val (.long z4), .second, .val (.double P), .second, .val (.int (1 : Int32)), .val (.int (1 : Int32)), .unset] [(.int (1 : Int32))]))
          have hc116 : ¬ ((1 : Int32) = (0 : Int32)) := (by decide)
          refine Runs.by (fun _ hr => XS.ifNo X5.here hx rfl (hb hby at_116) rfl ((if0 _ _).trans (feq hc116).1) hr) ?_
          show Runs p e below _ (T5.setTop (mkF m 119 #[.val (.long q0), .second, .val (.long q1), .second, .val (.long q2), .second, .val (.long q3), .second, .val (.int p4), .val (.long z1), .second, .val (.long z2), .second, .val (.long z3), .second, .val (.long z4), .second, .val (.double P), .second, .val (.int (1 : Int32)), .val (.int (1 : Int32)), .unset] []))
          refine Runs.by (fun _ hr => XS.dload X5.here hx rfl (hb hby at_119) rfl  hr) ?_
          show Runs p e below _ (T5.setTop (mkF m 121 #[.val (.long q0), .second, .val (.long q1), .second, .val (.long q2), .second, .val (.long q3), .second, .val (.int p4), .val (.long z1), .second, .val (.long z2), .second, .val (.long z3), .second, .val (.long z4), .second, .val (.double P), .second, .val (.int (1 : Int32)), .val (.int (1 : Int32)), .unset] [(.double P)]))
          refine Runs.by (fun t hr => X5.ldc2DoubleC hx hown (mvT hZ (hw _ (List.mem_of_getElem? (i := 33) rfl))) (g := (mkF m 121 #[.val (.long q0), .second, .val (.long q1), .second, .val (.long q2), .second, .val (.long q3), .second, .val (.int p4), .val (.long z1), .second, .val (.long z2), .second, .val (.long z3), .second, .val (.long z4), .second, .val (.double P), .second, .val (.int (1 : Int32)), .val (.int (1 : Int32)), .unset] [(.double P)])) rfl (hb hby at_121) t hr) ?_
          show Runs p e below _ (T5.setTop (mkF m 124 #[.val (.long q0), .second, .val (.long q1), .second, .val (.long q2), .second, .val (.long q3), .second, .val (.int p4), .val (.long z1), .second, .val (.long z2), .second, .val (.long z3), .second, .val (.long z4), .second, .val (.double P), .second, .val (.int (1 : Int32)), .val (.int (1 : Int32)), .unset] [(.double (4600877379321698714 : UInt64)), (.double P)]))
          refine Runs.by (fun _ hr => XS.dcmpS X5.here hx rfl (hb hby at_124) rfl rfl hr) ?_
          show Runs p e below _ (T5.setTop (mkF m 125 #[.val (.long q0), .second, .val (.long q1), .second, .val (.long q2), .second, .val (.long q3), .second, .val (.int p4), .val (.long z1), .second, .val (.long z2), .second, .val (.long z3), .second, .val (.long z4), .second, .val (.double P), .second, .val (.int (1 : Int32)), .val (.int (1 : Int32)), .unset] [(.int (cmpValue (FP.dcmp P (4600877379321698714 : UInt64)) .l))]))
          have hc125 : (cmpValue (FP.dcmp P (4600877379321698714 : UInt64)) .l) = (0 : Int32) := ((own_cz_eq nP own_nn04 _).mpr (LA (Or.inr ⟨gz, bz⟩)))
          refine Runs.by (fun _ hr => XS.ifNo X5.here hx rfl (hb hby at_125) rfl ((if0 _ _).trans (teq hc125).2) hr) ?_
          show Runs p e below _ (T5.setTop (mkF m 128 #[.val (.long q0), .second, .val (.long q1), .second, .val (.long q2), .second, .val (.long q3), .second, .val (.int p4), .val (.long z1), .second, .val (.long z2), .second, .val (.long z3), .second, .val (.long z4), .second, .val (.double P), .second, .val (.int (1 : Int32)), .val (.int (1 : Int32)), .unset] []))
          refine Runs.by (fun _ hr => XS.iconst X5.here hx rfl (hb hby at_128) hr) ?_
          show Runs p e below _ (T5.setTop (mkF m 129 #[.val (.long q0), .second, .val (.long q1), .second, .val (.long q2), .second, .val (.long q3), .second, .val (.int p4), .val (.long z1), .second, .val (.long z2), .second, .val (.long z3), .second, .val (.long z4), .second, .val (.double P), .second, .val (.int (1 : Int32)), .val (.int (1 : Int32)), .unset] [(.int (1 : Int32))]))
          refine Runs.by (fun _ hr => XS.goto X5.here hx rfl (pc0 := 129) (pc' := 133) rfl (hb hby at_129) (by decide) (by decide) hr) ?_
          show Runs p e below _ (T5.setTop (mkF m 133 #[.val (.long q0), .second, .val (.long q1), .second, .val (.long q2), .second, .val (.long q3), .second, .val (.int p4), .val (.long z1), .second, .val (.long z2), .second, .val (.long z3), .second, .val (.long z4), .second, .val (.double P), .second, .val (.int (1 : Int32)), .val (.int (1 : Int32)), .unset] [(.int (1 : Int32))]))
          refine Runs.ret X5 hx hrt hlk (Or.inl ⟨rfl, by simp, _, rfl⟩) (by rfl) (hb hby at_133) (by decide) (by decide) ?_
          rw [eq5]
          exact ⟨rfl, N5⟩
      · -- pc 83: not (lcmpW z3 (0 : Int64)) = (0 : Int32)
        refine Runs.by (fun _ hr => XS.ifYes X5.here hx rfl (pc0 := 83) (pc' := 90) rfl (hb hby at_83) rfl ((if0 _ _).trans (feq hc83).2) (by decide) (by decide) hr) ?_
        show Runs p e below _ (T5.setTop (mkF m 90 #[.val (.long q0), .second, .val (.long q1), .second, .val (.long q2), .second, .val (.long q3), .second, .val (.int p4), .val (.long z1), .second, .val (.long z2), .second, .val (.long z3), .second, .val (.long z4), .second, .val (.double P), .second, .val (.int (1 : Int32)), .unset, .unset] []))
        refine Runs.by (fun _ hr => XS.iconst X5.here hx rfl (hb hby at_90) hr) ?_
        show Runs p e below _ (T5.setTop (mkF m 91 #[.val (.long q0), .second, .val (.long q1), .second, .val (.long q2), .second, .val (.long q3), .second, .val (.int p4), .val (.long z1), .second, .val (.long z2), .second, .val (.long z3), .second, .val (.long z4), .second, .val (.double P), .second, .val (.int (1 : Int32)), .unset, .unset] [(.int (0 : Int32))]))
        refine Runs.by (fun _ hr => XS.istore X5.here hx rfl (hb hby at_91) rfl (l' := #[.val (.long q0), .second, .val (.long q1), .second, .val (.long q2), .second, .val (.long q3), .second, .val (.int p4), .val (.long z1), .second, .val (.long z2), .second, .val (.long z3), .second, .val (.long z4), .second, .val (.double P), .second, .val (.int (1 : Int32)), .val (.int (0 : Int32)), .unset]) rfl hr) ?_
        have bz : ¬ (z1 = 0 ∨ z3 = 0) := fun z => z.elim (fun q => hc76 (own_lcz.mpr q)) (fun q => hc83 (own_lcz.mpr q))
        show Runs p e below _ (T5.setTop (mkF m 93 #[.val (.long q0), .second, .val (.long q1), .second, .val (.long q2), .second, .val (.long q3), .second, .val (.int p4), .val (.long z1), .second, .val (.long z2), .second, .val (.long z3), .second, .val (.long z4), .second, .val (.double P), .second, .val (.int (1 : Int32)), .val (.int (0 : Int32)), .unset] []))
        refine Runs.by (fun _ hr => X5.ldc2J hx hown (mvT hZ (hw _ (List.mem_of_getElem? (i := 24) rfl))) (g := (mkF m 93 #[.val (.long q0), .second, .val (.long q1), .second, .val (.long q2), .second, .val (.long q3), .second, .val (.int p4), .val (.long z1), .second, .val (.long z2), .second, .val (.long z3), .second, .val (.long z4), .second, .val (.double P), .second, .val (.int (1 : Int32)), .val (.int (0 : Int32)), .unset] [])) rfl (hb hby at_93) hr) ?_
        show Runs p e below _ (T5.setTop (mkF m 96 #[.val (.long q0), .second, .val (.long q1), .second, .val (.long q2), .second, .val (.long q3), .second, .val (.int p4), .val (.long z1), .second, .val (.long z2), .second, .val (.long z3), .second, .val (.long z4), .second, .val (.double P), .second, .val (.int (1 : Int32)), .val (.int (0 : Int32)), .unset] [(.long (2 : Int64))]))
        refine Runs.by (fun _ hr => XS.lload X5.here hx rfl (hb hby at_96) rfl  hr) ?_
        show Runs p e below _ (T5.setTop (mkF m 98 #[.val (.long q0), .second, .val (.long q1), .second, .val (.long q2), .second, .val (.long q3), .second, .val (.int p4), .val (.long z1), .second, .val (.long z2), .second, .val (.long z3), .second, .val (.long z4), .second, .val (.double P), .second, .val (.int (1 : Int32)), .val (.int (0 : Int32)), .unset] [(.long z2), (.long (2 : Int64))]))
        refine Runs.by (fun _ hr => XS.lmul X5.here hx rfl (hb hby at_98) rfl hr) ?_
        show Runs p e below _ (T5.setTop (mkF m 99 #[.val (.long q0), .second, .val (.long q1), .second, .val (.long q2), .second, .val (.long q3), .second, .val (.int p4), .val (.long z1), .second, .val (.long z2), .second, .val (.long z3), .second, .val (.long z4), .second, .val (.double P), .second, .val (.int (1 : Int32)), .val (.int (0 : Int32)), .unset] [(.long ((2 : Int64) * z2))]))
        refine Runs.by (fun _ hr => XS.lload X5.here hx rfl (hb hby at_99) rfl  hr) ?_
        show Runs p e below _ (T5.setTop (mkF m 101 #[.val (.long q0), .second, .val (.long q1), .second, .val (.long q2), .second, .val (.long q3), .second, .val (.int p4), .val (.long z1), .second, .val (.long z2), .second, .val (.long z3), .second, .val (.long z4), .second, .val (.double P), .second, .val (.int (1 : Int32)), .val (.int (0 : Int32)), .unset] [(.long z1), (.long ((2 : Int64) * z2))]))
        refine Runs.by (fun _ hr => XS.ladd X5.here hx rfl (hb hby at_101) rfl hr) ?_
        show Runs p e below _ (T5.setTop (mkF m 102 #[.val (.long q0), .second, .val (.long q1), .second, .val (.long q2), .second, .val (.long q3), .second, .val (.int p4), .val (.long z1), .second, .val (.long z2), .second, .val (.long z3), .second, .val (.long z4), .second, .val (.double P), .second, .val (.int (1 : Int32)), .val (.int (0 : Int32)), .unset] [(.long (((2 : Int64) * z2) + z1))]))
        refine Runs.by (fun _ hr => X5.ldc2J hx hown (mvT hZ (hw _ (List.mem_of_getElem? (i := 25) rfl))) (g := (mkF m 102 #[.val (.long q0), .second, .val (.long q1), .second, .val (.long q2), .second, .val (.long q3), .second, .val (.int p4), .val (.long z1), .second, .val (.long z2), .second, .val (.long z3), .second, .val (.long z4), .second, .val (.double P), .second, .val (.int (1 : Int32)), .val (.int (0 : Int32)), .unset] [(.long (((2 : Int64) * z2) + z1))])) rfl (hb hby at_102) hr) ?_
        show Runs p e below _ (T5.setTop (mkF m 105 #[.val (.long q0), .second, .val (.long q1), .second, .val (.long q2), .second, .val (.long q3), .second, .val (.int p4), .val (.long z1), .second, .val (.long z2), .second, .val (.long z3), .second, .val (.long z4), .second, .val (.double P), .second, .val (.int (1 : Int32)), .val (.int (0 : Int32)), .unset] [(.long (5 : Int64)), (.long (((2 : Int64) * z2) + z1))]))
        refine Runs.by (fun _ hr => XS.lcmp X5.here hx rfl (hb hby at_105) rfl hr) ?_
        show Runs p e below _ (T5.setTop (mkF m 106 #[.val (.long q0), .second, .val (.long q1), .second, .val (.long q2), .second, .val (.long q3), .second, .val (.int p4), .val (.long z1), .second, .val (.long z2), .second, .val (.long z3), .second, .val (.long z4), .second, .val (.double P), .second, .val (.int (1 : Int32)), .val (.int (0 : Int32)), .unset] [(.int (lcmpW (((2 : Int64) * z2) + z1) (5 : Int64)))]))
        by_cases hc106 : (lcmpW (((2 : Int64) * z2) + z1) (5 : Int64)) < (0 : Int32)
        · -- pc 106: (lcmpW (((2 : Int64) * z2) + z1) (5 : Int64)) < (0 : Int32)
          refine Runs.by (fun _ hr => XS.ifYes X5.here hx rfl (pc0 := 106) (pc' := 119) rfl (hb hby at_106) rfl ((if0 _ _).trans (tlt hc106).1) (by decide) (by decide) hr) ?_
          show Runs p e below _ (T5.setTop (mkF m 119 #[.val (.long q0), .second, .val (.long q1), .second, .val (.long q2), .second, .val (.long q3), .second, .val (.int p4), .val (.long z1), .second, .val (.long z2), .second, .val (.long z3), .second, .val (.long z4), .second, .val (.double P), .second, .val (.int (1 : Int32)), .val (.int (0 : Int32)), .unset] []))
          refine Runs.by (fun _ hr => XS.dload X5.here hx rfl (hb hby at_119) rfl  hr) ?_
          show Runs p e below _ (T5.setTop (mkF m 121 #[.val (.long q0), .second, .val (.long q1), .second, .val (.long q2), .second, .val (.long q3), .second, .val (.int p4), .val (.long z1), .second, .val (.long z2), .second, .val (.long z3), .second, .val (.long z4), .second, .val (.double P), .second, .val (.int (1 : Int32)), .val (.int (0 : Int32)), .unset] [(.double P)]))
          refine Runs.by (fun t hr => X5.ldc2DoubleC hx hown (mvT hZ (hw _ (List.mem_of_getElem? (i := 33) rfl))) (g := (mkF m 121 #[.val (.long q0), .second, .val (.long q1), .second, .val (.long q2), .second, .val (.long q3), .second, .val (.int p4), .val (.long z1), .second, .val (.long z2), .second, .val (.long z3), .second, .val (.long z4), .second, .val (.double P), .second, .val (.int (1 : Int32)), .val (.int (0 : Int32)), .unset] [(.double P)])) rfl (hb hby at_121) t hr) ?_
          show Runs p e below _ (T5.setTop (mkF m 124 #[.val (.long q0), .second, .val (.long q1), .second, .val (.long q2), .second, .val (.long q3), .second, .val (.int p4), .val (.long z1), .second, .val (.long z2), .second, .val (.long z3), .second, .val (.long z4), .second, .val (.double P), .second, .val (.int (1 : Int32)), .val (.int (0 : Int32)), .unset] [(.double (4600877379321698714 : UInt64)), (.double P)]))
          refine Runs.by (fun _ hr => XS.dcmpS X5.here hx rfl (hb hby at_124) rfl rfl hr) ?_
          show Runs p e below _ (T5.setTop (mkF m 125 #[.val (.long q0), .second, .val (.long q1), .second, .val (.long q2), .second, .val (.long q3), .second, .val (.int p4), .val (.long z1), .second, .val (.long z2), .second, .val (.long z3), .second, .val (.long z4), .second, .val (.double P), .second, .val (.int (1 : Int32)), .val (.int (0 : Int32)), .unset] [(.int (cmpValue (FP.dcmp P (4600877379321698714 : UInt64)) .l))]))
          have hc125 : (cmpValue (FP.dcmp P (4600877379321698714 : UInt64)) .l) = (0 : Int32) := ((own_cz_eq nP own_nn04 _).mpr (LA (Or.inl (own_lt5.mp hc106))))
          refine Runs.by (fun _ hr => XS.ifNo X5.here hx rfl (hb hby at_125) rfl ((if0 _ _).trans (teq hc125).2) hr) ?_
          show Runs p e below _ (T5.setTop (mkF m 128 #[.val (.long q0), .second, .val (.long q1), .second, .val (.long q2), .second, .val (.long q3), .second, .val (.int p4), .val (.long z1), .second, .val (.long z2), .second, .val (.long z3), .second, .val (.long z4), .second, .val (.double P), .second, .val (.int (1 : Int32)), .val (.int (0 : Int32)), .unset] []))
          refine Runs.by (fun _ hr => XS.iconst X5.here hx rfl (hb hby at_128) hr) ?_
          show Runs p e below _ (T5.setTop (mkF m 129 #[.val (.long q0), .second, .val (.long q1), .second, .val (.long q2), .second, .val (.long q3), .second, .val (.int p4), .val (.long z1), .second, .val (.long z2), .second, .val (.long z3), .second, .val (.long z4), .second, .val (.double P), .second, .val (.int (1 : Int32)), .val (.int (0 : Int32)), .unset] [(.int (1 : Int32))]))
          refine Runs.by (fun _ hr => XS.goto X5.here hx rfl (pc0 := 129) (pc' := 133) rfl (hb hby at_129) (by decide) (by decide) hr) ?_
          show Runs p e below _ (T5.setTop (mkF m 133 #[.val (.long q0), .second, .val (.long q1), .second, .val (.long q2), .second, .val (.long q3), .second, .val (.int p4), .val (.long z1), .second, .val (.long z2), .second, .val (.long z3), .second, .val (.long z4), .second, .val (.double P), .second, .val (.int (1 : Int32)), .val (.int (0 : Int32)), .unset] [(.int (1 : Int32))]))
          refine Runs.ret X5 hx hrt hlk (Or.inl ⟨rfl, by simp, _, rfl⟩) (by rfl) (hb hby at_133) (by decide) (by decide) ?_
          rw [eq5]
          exact ⟨rfl, N5⟩
        · -- pc 106: not (lcmpW (((2 : Int64) * z2) + z1) (5 : Int64)) < (0 : Int32)
          refine Runs.by (fun _ hr => XS.ifNo X5.here hx rfl (hb hby at_106) rfl ((if0 _ _).trans (flt hc106).1) hr) ?_
          show Runs p e below _ (T5.setTop (mkF m 109 #[.val (.long q0), .second, .val (.long q1), .second, .val (.long q2), .second, .val (.long q3), .second, .val (.int p4), .val (.long z1), .second, .val (.long z2), .second, .val (.long z3), .second, .val (.long z4), .second, .val (.double P), .second, .val (.int (1 : Int32)), .val (.int (0 : Int32)), .unset] []))
          refine Runs.by (fun _ hr => XS.iload X5.here hx rfl (hb hby at_109) rfl  hr) ?_
          show Runs p e below _ (T5.setTop (mkF m 111 #[.val (.long q0), .second, .val (.long q1), .second, .val (.long q2), .second, .val (.long q3), .second, .val (.int p4), .val (.long z1), .second, .val (.long z2), .second, .val (.long z3), .second, .val (.long z4), .second, .val (.double P), .second, .val (.int (1 : Int32)), .val (.int (0 : Int32)), .unset] [(.int (1 : Int32))]))
          have hc111 : ¬ ((1 : Int32) = (0 : Int32)) := (by decide)
          refine Runs.by (fun _ hr => XS.ifNo X5.here hx rfl (hb hby at_111) rfl ((if0 _ _).trans (feq hc111).1) hr) ?_
          show Runs p e below _ (T5.setTop (mkF m 114 #[.val (.long q0), .second, .val (.long q1), .second, .val (.long q2), .second, .val (.long q3), .second, .val (.int p4), .val (.long z1), .second, .val (.long z2), .second, .val (.long z3), .second, .val (.long z4), .second, .val (.double P), .second, .val (.int (1 : Int32)), .val (.int (0 : Int32)), .unset] []))
          refine Runs.by (fun _ hr => XS.iload X5.here hx rfl (hb hby at_114) rfl  hr) ?_
          show Runs p e below _ (T5.setTop (mkF m 116 #[.val (.long q0), .second, .val (.long q1), .second, .val (.long q2), .second, .val (.long q3), .second, .val (.int p4), .val (.long z1), .second, .val (.long z2), .second, .val (.long z3), .second, .val (.long z4), .second, .val (.double P), .second, .val (.int (1 : Int32)), .val (.int (0 : Int32)), .unset] [(.int (0 : Int32))]))
          have hc116 : (0 : Int32) = (0 : Int32) := (by decide)
          refine Runs.by (fun _ hr => XS.ifYes X5.here hx rfl (pc0 := 116) (pc' := 134) rfl (hb hby at_116) rfl ((if0 _ _).trans (teq hc116).1) (by decide) (by decide) hr) ?_
          show Runs p e below _ (T5.setTop (mkF m 134 #[.val (.long q0), .second, .val (.long q1), .second, .val (.long q2), .second, .val (.long q3), .second, .val (.int p4), .val (.long z1), .second, .val (.long z2), .second, .val (.long z3), .second, .val (.long z4), .second, .val (.double P), .second, .val (.int (1 : Int32)), .val (.int (0 : Int32)), .unset] []))
          refine Runs.by (fun _ hr => XS.iload X5.here hx rfl (hb hby at_134) rfl  hr) ?_
          show Runs p e below _ (T5.setTop (mkF m 136 #[.val (.long q0), .second, .val (.long q1), .second, .val (.long q2), .second, .val (.long q3), .second, .val (.int p4), .val (.long z1), .second, .val (.long z2), .second, .val (.long z3), .second, .val (.long z4), .second, .val (.double P), .second, .val (.int (1 : Int32)), .val (.int (0 : Int32)), .unset] [(.int (1 : Int32))]))
          have hc136 : ¬ ((1 : Int32) = (0 : Int32)) := (by decide)
          refine Runs.by (fun _ hr => XS.ifNo X5.here hx rfl (hb hby at_136) rfl ((if0 _ _).trans (feq hc136).1) hr) ?_
          show Runs p e below _ (T5.setTop (mkF m 139 #[.val (.long q0), .second, .val (.long q1), .second, .val (.long q2), .second, .val (.long q3), .second, .val (.int p4), .val (.long z1), .second, .val (.long z2), .second, .val (.long z3), .second, .val (.long z4), .second, .val (.double P), .second, .val (.int (1 : Int32)), .val (.int (0 : Int32)), .unset] []))
          refine Runs.by (fun _ hr => XS.dload X5.here hx rfl (hb hby at_139) rfl  hr) ?_
          show Runs p e below _ (T5.setTop (mkF m 141 #[.val (.long q0), .second, .val (.long q1), .second, .val (.long q2), .second, .val (.long q3), .second, .val (.int p4), .val (.long z1), .second, .val (.long z2), .second, .val (.long z3), .second, .val (.long z4), .second, .val (.double P), .second, .val (.int (1 : Int32)), .val (.int (0 : Int32)), .unset] [(.double P)]))
          refine Runs.by (fun t hr => X5.ldc2DoubleC hx hown (mvT hZ (hw _ (List.mem_of_getElem? (i := 27) rfl))) (g := (mkF m 141 #[.val (.long q0), .second, .val (.long q1), .second, .val (.long q2), .second, .val (.long q3), .second, .val (.int p4), .val (.long z1), .second, .val (.long z2), .second, .val (.long z3), .second, .val (.long z4), .second, .val (.double P), .second, .val (.int (1 : Int32)), .val (.int (0 : Int32)), .unset] [(.double P)])) rfl (hb hby at_141) t hr) ?_
          show Runs p e below _ (T5.setTop (mkF m 144 #[.val (.long q0), .second, .val (.long q1), .second, .val (.long q2), .second, .val (.long q3), .second, .val (.int p4), .val (.long z1), .second, .val (.long z2), .second, .val (.long z3), .second, .val (.long z4), .second, .val (.double P), .second, .val (.int (1 : Int32)), .val (.int (0 : Int32)), .unset] [(.double (4607092346807469998 : UInt64)), (.double P)]))
          refine Runs.by (fun _ hr => XS.dcmpS X5.here hx rfl (hb hby at_144) rfl rfl hr) ?_
          show Runs p e below _ (T5.setTop (mkF m 145 #[.val (.long q0), .second, .val (.long q1), .second, .val (.long q2), .second, .val (.long q3), .second, .val (.int p4), .val (.long z1), .second, .val (.long z2), .second, .val (.long z3), .second, .val (.long z4), .second, .val (.double P), .second, .val (.int (1 : Int32)), .val (.int (0 : Int32)), .unset] [(.int (cmpValue (FP.dcmp P (4607092346807469998 : UInt64)) .l))]))
          have hc145 : (cmpValue (FP.dcmp P (4607092346807469998 : UInt64)) .l) = (0 : Int32) := ((own_cz_eq nP own_nn99 _).mpr (LB (fun q => hc106 (own_lt5.mpr q)) gz bz))
          refine Runs.by (fun _ hr => XS.ifNo X5.here hx rfl (hb hby at_145) rfl ((if0 _ _).trans (teq hc145).2) hr) ?_
          show Runs p e below _ (T5.setTop (mkF m 148 #[.val (.long q0), .second, .val (.long q1), .second, .val (.long q2), .second, .val (.long q3), .second, .val (.int p4), .val (.long z1), .second, .val (.long z2), .second, .val (.long z3), .second, .val (.long z4), .second, .val (.double P), .second, .val (.int (1 : Int32)), .val (.int (0 : Int32)), .unset] []))
          refine Runs.by (fun _ hr => XS.iconst X5.here hx rfl (hb hby at_148) hr) ?_
          show Runs p e below _ (T5.setTop (mkF m 149 #[.val (.long q0), .second, .val (.long q1), .second, .val (.long q2), .second, .val (.long q3), .second, .val (.int p4), .val (.long z1), .second, .val (.long z2), .second, .val (.long z3), .second, .val (.long z4), .second, .val (.double P), .second, .val (.int (1 : Int32)), .val (.int (0 : Int32)), .unset] [(.int (1 : Int32))]))
          refine Runs.by (fun _ hr => XS.goto X5.here hx rfl (pc0 := 149) (pc' := 153) rfl (hb hby at_149) (by decide) (by decide) hr) ?_
          show Runs p e below _ (T5.setTop (mkF m 153 #[.val (.long q0), .second, .val (.long q1), .second, .val (.long q2), .second, .val (.long q3), .second, .val (.int p4), .val (.long z1), .second, .val (.long z2), .second, .val (.long z3), .second, .val (.long z4), .second, .val (.double P), .second, .val (.int (1 : Int32)), .val (.int (0 : Int32)), .unset] [(.int (1 : Int32))]))
          refine Runs.ret X5 hx hrt hlk (Or.inl ⟨rfl, by simp, _, rfl⟩) (by rfl) (hb hby at_153) (by decide) (by decide) ?_
          rw [eq5]
          exact ⟨rfl, N5⟩
  · -- pc 55: not (lcmpW z2 (0 : Int64)) = (0 : Int32)
    refine Runs.by (fun _ hr => XS.ifNo X5.here hx rfl (hb hby at_55) rfl ((if0 _ _).trans (feq hc55).1) hr) ?_
    show Runs p e below _ (T5.setTop (mkF m 58 #[.val (.long q0), .second, .val (.long q1), .second, .val (.long q2), .second, .val (.long q3), .second, .val (.int p4), .val (.long z1), .second, .val (.long z2), .second, .val (.long z3), .second, .val (.long z4), .second, .val (.double P), .second, .unset, .unset, .unset] []))
    refine Runs.by (fun _ hr => XS.lload X5.here hx rfl (hb hby at_58) rfl  hr) ?_
    show Runs p e below _ (T5.setTop (mkF m 60 #[.val (.long q0), .second, .val (.long q1), .second, .val (.long q2), .second, .val (.long q3), .second, .val (.int p4), .val (.long z1), .second, .val (.long z2), .second, .val (.long z3), .second, .val (.long z4), .second, .val (.double P), .second, .unset, .unset, .unset] [(.long z4)]))
    refine Runs.by (fun _ hr => XS.lconst X5.here hx rfl (hb hby at_60) hr) ?_
    show Runs p e below _ (T5.setTop (mkF m 61 #[.val (.long q0), .second, .val (.long q1), .second, .val (.long q2), .second, .val (.long q3), .second, .val (.int p4), .val (.long z1), .second, .val (.long z2), .second, .val (.long z3), .second, .val (.long z4), .second, .val (.double P), .second, .unset, .unset, .unset] [(.long (0 : Int64)), (.long z4)]))
    refine Runs.by (fun _ hr => XS.lcmp X5.here hx rfl (hb hby at_61) rfl hr) ?_
    show Runs p e below _ (T5.setTop (mkF m 62 #[.val (.long q0), .second, .val (.long q1), .second, .val (.long q2), .second, .val (.long q3), .second, .val (.int p4), .val (.long z1), .second, .val (.long z2), .second, .val (.long z3), .second, .val (.long z4), .second, .val (.double P), .second, .unset, .unset, .unset] [(.int (lcmpW z4 (0 : Int64)))]))
    by_cases hc62 : (lcmpW z4 (0 : Int64)) = (0 : Int32)
    · -- pc 62: (lcmpW z4 (0 : Int64)) = (0 : Int32)
      refine Runs.by (fun _ hr => XS.ifNo X5.here hx rfl (hb hby at_62) rfl ((if0 _ _).trans (teq hc62).2) hr) ?_
      show Runs p e below _ (T5.setTop (mkF m 65 #[.val (.long q0), .second, .val (.long q1), .second, .val (.long q2), .second, .val (.long q3), .second, .val (.int p4), .val (.long z1), .second, .val (.long z2), .second, .val (.long z3), .second, .val (.long z4), .second, .val (.double P), .second, .unset, .unset, .unset] []))
      refine Runs.by (fun _ hr => XS.iconst X5.here hx rfl (hb hby at_65) hr) ?_
      show Runs p e below _ (T5.setTop (mkF m 66 #[.val (.long q0), .second, .val (.long q1), .second, .val (.long q2), .second, .val (.long q3), .second, .val (.int p4), .val (.long z1), .second, .val (.long z2), .second, .val (.long z3), .second, .val (.long z4), .second, .val (.double P), .second, .unset, .unset, .unset] [(.int (1 : Int32))]))
      refine Runs.by (fun _ hr => XS.goto X5.here hx rfl (pc0 := 66) (pc' := 70) rfl (hb hby at_66) (by decide) (by decide) hr) ?_
      show Runs p e below _ (T5.setTop (mkF m 70 #[.val (.long q0), .second, .val (.long q1), .second, .val (.long q2), .second, .val (.long q3), .second, .val (.int p4), .val (.long z1), .second, .val (.long z2), .second, .val (.long z3), .second, .val (.long z4), .second, .val (.double P), .second, .unset, .unset, .unset] [(.int (1 : Int32))]))
      refine Runs.by (fun _ hr => XS.istore X5.here hx rfl (hb hby at_70) rfl (l' := #[.val (.long q0), .second, .val (.long q1), .second, .val (.long q2), .second, .val (.long q3), .second, .val (.int p4), .val (.long z1), .second, .val (.long z2), .second, .val (.long z3), .second, .val (.long z4), .second, .val (.double P), .second, .val (.int (1 : Int32)), .unset, .unset]) rfl hr) ?_
      have gz : z2 = 0 ∨ z4 = 0 := Or.inr (own_lcz.mp hc62)
      show Runs p e below _ (T5.setTop (mkF m 72 #[.val (.long q0), .second, .val (.long q1), .second, .val (.long q2), .second, .val (.long q3), .second, .val (.int p4), .val (.long z1), .second, .val (.long z2), .second, .val (.long z3), .second, .val (.long z4), .second, .val (.double P), .second, .val (.int (1 : Int32)), .unset, .unset] []))
      refine Runs.by (fun _ hr => XS.lload X5.here hx rfl (hb hby at_72) rfl  hr) ?_
      show Runs p e below _ (T5.setTop (mkF m 74 #[.val (.long q0), .second, .val (.long q1), .second, .val (.long q2), .second, .val (.long q3), .second, .val (.int p4), .val (.long z1), .second, .val (.long z2), .second, .val (.long z3), .second, .val (.long z4), .second, .val (.double P), .second, .val (.int (1 : Int32)), .unset, .unset] [(.long z1)]))
      refine Runs.by (fun _ hr => XS.lconst X5.here hx rfl (hb hby at_74) hr) ?_
      show Runs p e below _ (T5.setTop (mkF m 75 #[.val (.long q0), .second, .val (.long q1), .second, .val (.long q2), .second, .val (.long q3), .second, .val (.int p4), .val (.long z1), .second, .val (.long z2), .second, .val (.long z3), .second, .val (.long z4), .second, .val (.double P), .second, .val (.int (1 : Int32)), .unset, .unset] [(.long (0 : Int64)), (.long z1)]))
      refine Runs.by (fun _ hr => XS.lcmp X5.here hx rfl (hb hby at_75) rfl hr) ?_
      show Runs p e below _ (T5.setTop (mkF m 76 #[.val (.long q0), .second, .val (.long q1), .second, .val (.long q2), .second, .val (.long q3), .second, .val (.int p4), .val (.long z1), .second, .val (.long z2), .second, .val (.long z3), .second, .val (.long z4), .second, .val (.double P), .second, .val (.int (1 : Int32)), .unset, .unset] [(.int (lcmpW z1 (0 : Int64)))]))
      by_cases hc76 : (lcmpW z1 (0 : Int64)) = (0 : Int32)
      · -- pc 76: (lcmpW z1 (0 : Int64)) = (0 : Int32)
        refine Runs.by (fun _ hr => XS.ifYes X5.here hx rfl (pc0 := 76) (pc' := 86) rfl (hb hby at_76) rfl ((if0 _ _).trans (teq hc76).1) (by decide) (by decide) hr) ?_
        show Runs p e below _ (T5.setTop (mkF m 86 #[.val (.long q0), .second, .val (.long q1), .second, .val (.long q2), .second, .val (.long q3), .second, .val (.int p4), .val (.long z1), .second, .val (.long z2), .second, .val (.long z3), .second, .val (.long z4), .second, .val (.double P), .second, .val (.int (1 : Int32)), .unset, .unset] []))
        refine Runs.by (fun _ hr => XS.iconst X5.here hx rfl (hb hby at_86) hr) ?_
        show Runs p e below _ (T5.setTop (mkF m 87 #[.val (.long q0), .second, .val (.long q1), .second, .val (.long q2), .second, .val (.long q3), .second, .val (.int p4), .val (.long z1), .second, .val (.long z2), .second, .val (.long z3), .second, .val (.long z4), .second, .val (.double P), .second, .val (.int (1 : Int32)), .unset, .unset] [(.int (1 : Int32))]))
        refine Runs.by (fun _ hr => XS.goto X5.here hx rfl (pc0 := 87) (pc' := 91) rfl (hb hby at_87) (by decide) (by decide) hr) ?_
        show Runs p e below _ (T5.setTop (mkF m 91 #[.val (.long q0), .second, .val (.long q1), .second, .val (.long q2), .second, .val (.long q3), .second, .val (.int p4), .val (.long z1), .second, .val (.long z2), .second, .val (.long z3), .second, .val (.long z4), .second, .val (.double P), .second, .val (.int (1 : Int32)), .unset, .unset] [(.int (1 : Int32))]))
        refine Runs.by (fun _ hr => XS.istore X5.here hx rfl (hb hby at_91) rfl (l' := #[.val (.long q0), .second, .val (.long q1), .second, .val (.long q2), .second, .val (.long q3), .second, .val (.int p4), .val (.long z1), .second, .val (.long z2), .second, .val (.long z3), .second, .val (.long z4), .second, .val (.double P), .second, .val (.int (1 : Int32)), .val (.int (1 : Int32)), .unset]) rfl hr) ?_
        have bz : z1 = 0 ∨ z3 = 0 := Or.inl (own_lcz.mp hc76)
        show Runs p e below _ (T5.setTop (mkF m 93 #[.val (.long q0), .second, .val (.long q1), .second, .val (.long q2), .second, .val (.long q3), .second, .val (.int p4), .val (.long z1), .second, .val (.long z2), .second, .val (.long z3), .second, .val (.long z4), .second, .val (.double P), .second, .val (.int (1 : Int32)), .val (.int (1 : Int32)), .unset] []))
        refine Runs.by (fun _ hr => X5.ldc2J hx hown (mvT hZ (hw _ (List.mem_of_getElem? (i := 24) rfl))) (g := (mkF m 93 #[.val (.long q0), .second, .val (.long q1), .second, .val (.long q2), .second, .val (.long q3), .second, .val (.int p4), .val (.long z1), .second, .val (.long z2), .second, .val (.long z3), .second, .val (.long z4), .second, .val (.double P), .second, .val (.int (1 : Int32)), .val (.int (1 : Int32)), .unset] [])) rfl (hb hby at_93) hr) ?_
        show Runs p e below _ (T5.setTop (mkF m 96 #[.val (.long q0), .second, .val (.long q1), .second, .val (.long q2), .second, .val (.long q3), .second, .val (.int p4), .val (.long z1), .second, .val (.long z2), .second, .val (.long z3), .second, .val (.long z4), .second, .val (.double P), .second, .val (.int (1 : Int32)), .val (.int (1 : Int32)), .unset] [(.long (2 : Int64))]))
        refine Runs.by (fun _ hr => XS.lload X5.here hx rfl (hb hby at_96) rfl  hr) ?_
        show Runs p e below _ (T5.setTop (mkF m 98 #[.val (.long q0), .second, .val (.long q1), .second, .val (.long q2), .second, .val (.long q3), .second, .val (.int p4), .val (.long z1), .second, .val (.long z2), .second, .val (.long z3), .second, .val (.long z4), .second, .val (.double P), .second, .val (.int (1 : Int32)), .val (.int (1 : Int32)), .unset] [(.long z2), (.long (2 : Int64))]))
        refine Runs.by (fun _ hr => XS.lmul X5.here hx rfl (hb hby at_98) rfl hr) ?_
        show Runs p e below _ (T5.setTop (mkF m 99 #[.val (.long q0), .second, .val (.long q1), .second, .val (.long q2), .second, .val (.long q3), .second, .val (.int p4), .val (.long z1), .second, .val (.long z2), .second, .val (.long z3), .second, .val (.long z4), .second, .val (.double P), .second, .val (.int (1 : Int32)), .val (.int (1 : Int32)), .unset] [(.long ((2 : Int64) * z2))]))
        refine Runs.by (fun _ hr => XS.lload X5.here hx rfl (hb hby at_99) rfl  hr) ?_
        show Runs p e below _ (T5.setTop (mkF m 101 #[.val (.long q0), .second, .val (.long q1), .second, .val (.long q2), .second, .val (.long q3), .second, .val (.int p4), .val (.long z1), .second, .val (.long z2), .second, .val (.long z3), .second, .val (.long z4), .second, .val (.double P), .second, .val (.int (1 : Int32)), .val (.int (1 : Int32)), .unset] [(.long z1), (.long ((2 : Int64) * z2))]))
        refine Runs.by (fun _ hr => XS.ladd X5.here hx rfl (hb hby at_101) rfl hr) ?_
        show Runs p e below _ (T5.setTop (mkF m 102 #[.val (.long q0), .second, .val (.long q1), .second, .val (.long q2), .second, .val (.long q3), .second, .val (.int p4), .val (.long z1), .second, .val (.long z2), .second, .val (.long z3), .second, .val (.long z4), .second, .val (.double P), .second, .val (.int (1 : Int32)), .val (.int (1 : Int32)), .unset] [(.long (((2 : Int64) * z2) + z1))]))
        refine Runs.by (fun _ hr => X5.ldc2J hx hown (mvT hZ (hw _ (List.mem_of_getElem? (i := 25) rfl))) (g := (mkF m 102 #[.val (.long q0), .second, .val (.long q1), .second, .val (.long q2), .second, .val (.long q3), .second, .val (.int p4), .val (.long z1), .second, .val (.long z2), .second, .val (.long z3), .second, .val (.long z4), .second, .val (.double P), .second, .val (.int (1 : Int32)), .val (.int (1 : Int32)), .unset] [(.long (((2 : Int64) * z2) + z1))])) rfl (hb hby at_102) hr) ?_
        show Runs p e below _ (T5.setTop (mkF m 105 #[.val (.long q0), .second, .val (.long q1), .second, .val (.long q2), .second, .val (.long q3), .second, .val (.int p4), .val (.long z1), .second, .val (.long z2), .second, .val (.long z3), .second, .val (.long z4), .second, .val (.double P), .second, .val (.int (1 : Int32)), .val (.int (1 : Int32)), .unset] [(.long (5 : Int64)), (.long (((2 : Int64) * z2) + z1))]))
        refine Runs.by (fun _ hr => XS.lcmp X5.here hx rfl (hb hby at_105) rfl hr) ?_
        show Runs p e below _ (T5.setTop (mkF m 106 #[.val (.long q0), .second, .val (.long q1), .second, .val (.long q2), .second, .val (.long q3), .second, .val (.int p4), .val (.long z1), .second, .val (.long z2), .second, .val (.long z3), .second, .val (.long z4), .second, .val (.double P), .second, .val (.int (1 : Int32)), .val (.int (1 : Int32)), .unset] [(.int (lcmpW (((2 : Int64) * z2) + z1) (5 : Int64)))]))
        by_cases hc106 : (lcmpW (((2 : Int64) * z2) + z1) (5 : Int64)) < (0 : Int32)
        · -- pc 106: (lcmpW (((2 : Int64) * z2) + z1) (5 : Int64)) < (0 : Int32)
          refine Runs.by (fun _ hr => XS.ifYes X5.here hx rfl (pc0 := 106) (pc' := 119) rfl (hb hby at_106) rfl ((if0 _ _).trans (tlt hc106).1) (by decide) (by decide) hr) ?_
          show Runs p e below _ (T5.setTop (mkF m 119 #[.val (.long q0), .second, .val (.long q1), .second, .val (.long q2), .second, .val (.long q3), .second, .val (.int p4), .val (.long z1), .second, .val (.long z2), .second, .val (.long z3), .second, .val (.long z4), .second, .val (.double P), .second, .val (.int (1 : Int32)), .val (.int (1 : Int32)), .unset] []))
          refine Runs.by (fun _ hr => XS.dload X5.here hx rfl (hb hby at_119) rfl  hr) ?_
          show Runs p e below _ (T5.setTop (mkF m 121 #[.val (.long q0), .second, .val (.long q1), .second, .val (.long q2), .second, .val (.long q3), .second, .val (.int p4), .val (.long z1), .second, .val (.long z2), .second, .val (.long z3), .second, .val (.long z4), .second, .val (.double P), .second, .val (.int (1 : Int32)), .val (.int (1 : Int32)), .unset] [(.double P)]))
          refine Runs.by (fun t hr => X5.ldc2DoubleC hx hown (mvT hZ (hw _ (List.mem_of_getElem? (i := 33) rfl))) (g := (mkF m 121 #[.val (.long q0), .second, .val (.long q1), .second, .val (.long q2), .second, .val (.long q3), .second, .val (.int p4), .val (.long z1), .second, .val (.long z2), .second, .val (.long z3), .second, .val (.long z4), .second, .val (.double P), .second, .val (.int (1 : Int32)), .val (.int (1 : Int32)), .unset] [(.double P)])) rfl (hb hby at_121) t hr) ?_
          show Runs p e below _ (T5.setTop (mkF m 124 #[.val (.long q0), .second, .val (.long q1), .second, .val (.long q2), .second, .val (.long q3), .second, .val (.int p4), .val (.long z1), .second, .val (.long z2), .second, .val (.long z3), .second, .val (.long z4), .second, .val (.double P), .second, .val (.int (1 : Int32)), .val (.int (1 : Int32)), .unset] [(.double (4600877379321698714 : UInt64)), (.double P)]))
          refine Runs.by (fun _ hr => XS.dcmpS X5.here hx rfl (hb hby at_124) rfl rfl hr) ?_
          show Runs p e below _ (T5.setTop (mkF m 125 #[.val (.long q0), .second, .val (.long q1), .second, .val (.long q2), .second, .val (.long q3), .second, .val (.int p4), .val (.long z1), .second, .val (.long z2), .second, .val (.long z3), .second, .val (.long z4), .second, .val (.double P), .second, .val (.int (1 : Int32)), .val (.int (1 : Int32)), .unset] [(.int (cmpValue (FP.dcmp P (4600877379321698714 : UInt64)) .l))]))
          have hc125 : (cmpValue (FP.dcmp P (4600877379321698714 : UInt64)) .l) = (0 : Int32) := ((own_cz_eq nP own_nn04 _).mpr (LA (Or.inl (own_lt5.mp hc106))))
          refine Runs.by (fun _ hr => XS.ifNo X5.here hx rfl (hb hby at_125) rfl ((if0 _ _).trans (teq hc125).2) hr) ?_
          show Runs p e below _ (T5.setTop (mkF m 128 #[.val (.long q0), .second, .val (.long q1), .second, .val (.long q2), .second, .val (.long q3), .second, .val (.int p4), .val (.long z1), .second, .val (.long z2), .second, .val (.long z3), .second, .val (.long z4), .second, .val (.double P), .second, .val (.int (1 : Int32)), .val (.int (1 : Int32)), .unset] []))
          refine Runs.by (fun _ hr => XS.iconst X5.here hx rfl (hb hby at_128) hr) ?_
          show Runs p e below _ (T5.setTop (mkF m 129 #[.val (.long q0), .second, .val (.long q1), .second, .val (.long q2), .second, .val (.long q3), .second, .val (.int p4), .val (.long z1), .second, .val (.long z2), .second, .val (.long z3), .second, .val (.long z4), .second, .val (.double P), .second, .val (.int (1 : Int32)), .val (.int (1 : Int32)), .unset] [(.int (1 : Int32))]))
          refine Runs.by (fun _ hr => XS.goto X5.here hx rfl (pc0 := 129) (pc' := 133) rfl (hb hby at_129) (by decide) (by decide) hr) ?_
          show Runs p e below _ (T5.setTop (mkF m 133 #[.val (.long q0), .second, .val (.long q1), .second, .val (.long q2), .second, .val (.long q3), .second, .val (.int p4), .val (.long z1), .second, .val (.long z2), .second, .val (.long z3), .second, .val (.long z4), .second, .val (.double P), .second, .val (.int (1 : Int32)), .val (.int (1 : Int32)), .unset] [(.int (1 : Int32))]))
          refine Runs.ret X5 hx hrt hlk (Or.inl ⟨rfl, by simp, _, rfl⟩) (by rfl) (hb hby at_133) (by decide) (by decide) ?_
          rw [eq5]
          exact ⟨rfl, N5⟩
        · -- pc 106: not (lcmpW (((2 : Int64) * z2) + z1) (5 : Int64)) < (0 : Int32)
          refine Runs.by (fun _ hr => XS.ifNo X5.here hx rfl (hb hby at_106) rfl ((if0 _ _).trans (flt hc106).1) hr) ?_
          show Runs p e below _ (T5.setTop (mkF m 109 #[.val (.long q0), .second, .val (.long q1), .second, .val (.long q2), .second, .val (.long q3), .second, .val (.int p4), .val (.long z1), .second, .val (.long z2), .second, .val (.long z3), .second, .val (.long z4), .second, .val (.double P), .second, .val (.int (1 : Int32)), .val (.int (1 : Int32)), .unset] []))
          refine Runs.by (fun _ hr => XS.iload X5.here hx rfl (hb hby at_109) rfl  hr) ?_
          show Runs p e below _ (T5.setTop (mkF m 111 #[.val (.long q0), .second, .val (.long q1), .second, .val (.long q2), .second, .val (.long q3), .second, .val (.int p4), .val (.long z1), .second, .val (.long z2), .second, .val (.long z3), .second, .val (.long z4), .second, .val (.double P), .second, .val (.int (1 : Int32)), .val (.int (1 : Int32)), .unset] [(.int (1 : Int32))]))
          have hc111 : ¬ ((1 : Int32) = (0 : Int32)) := (by decide)
          refine Runs.by (fun _ hr => XS.ifNo X5.here hx rfl (hb hby at_111) rfl ((if0 _ _).trans (feq hc111).1) hr) ?_
          show Runs p e below _ (T5.setTop (mkF m 114 #[.val (.long q0), .second, .val (.long q1), .second, .val (.long q2), .second, .val (.long q3), .second, .val (.int p4), .val (.long z1), .second, .val (.long z2), .second, .val (.long z3), .second, .val (.long z4), .second, .val (.double P), .second, .val (.int (1 : Int32)), .val (.int (1 : Int32)), .unset] []))
          refine Runs.by (fun _ hr => XS.iload X5.here hx rfl (hb hby at_114) rfl  hr) ?_
          show Runs p e below _ (T5.setTop (mkF m 116 #[.val (.long q0), .second, .val (.long q1), .second, .val (.long q2), .second, .val (.long q3), .second, .val (.int p4), .val (.long z1), .second, .val (.long z2), .second, .val (.long z3), .second, .val (.long z4), .second, .val (.double P), .second, .val (.int (1 : Int32)), .val (.int (1 : Int32)), .unset] [(.int (1 : Int32))]))
          have hc116 : ¬ ((1 : Int32) = (0 : Int32)) := (by decide)
          refine Runs.by (fun _ hr => XS.ifNo X5.here hx rfl (hb hby at_116) rfl ((if0 _ _).trans (feq hc116).1) hr) ?_
          show Runs p e below _ (T5.setTop (mkF m 119 #[.val (.long q0), .second, .val (.long q1), .second, .val (.long q2), .second, .val (.long q3), .second, .val (.int p4), .val (.long z1), .second, .val (.long z2), .second, .val (.long z3), .second, .val (.long z4), .second, .val (.double P), .second, .val (.int (1 : Int32)), .val (.int (1 : Int32)), .unset] []))
          refine Runs.by (fun _ hr => XS.dload X5.here hx rfl (hb hby at_119) rfl  hr) ?_
          show Runs p e below _ (T5.setTop (mkF m 121 #[.val (.long q0), .second, .val (.long q1), .second, .val (.long q2), .second, .val (.long q3), .second, .val (.int p4), .val (.long z1), .second, .val (.long z2), .second, .val (.long z3), .second, .val (.long z4), .second, .val (.double P), .second, .val (.int (1 : Int32)), .val (.int (1 : Int32)), .unset] [(.double P)]))
          refine Runs.by (fun t hr => X5.ldc2DoubleC hx hown (mvT hZ (hw _ (List.mem_of_getElem? (i := 33) rfl))) (g := (mkF m 121 #[.val (.long q0), .second, .val (.long q1), .second, .val (.long q2), .second, .val (.long q3), .second, .val (.int p4), .val (.long z1), .second, .val (.long z2), .second, .val (.long z3), .second, .val (.long z4), .second, .val (.double P), .second, .val (.int (1 : Int32)), .val (.int (1 : Int32)), .unset] [(.double P)])) rfl (hb hby at_121) t hr) ?_
          show Runs p e below _ (T5.setTop (mkF m 124 #[.val (.long q0), .second, .val (.long q1), .second, .val (.long q2), .second, .val (.long q3), .second, .val (.int p4), .val (.long z1), .second, .val (.long z2), .second, .val (.long z3), .second, .val (.long z4), .second, .val (.double P), .second, .val (.int (1 : Int32)), .val (.int (1 : Int32)), .unset] [(.double (4600877379321698714 : UInt64)), (.double P)]))
          refine Runs.by (fun _ hr => XS.dcmpS X5.here hx rfl (hb hby at_124) rfl rfl hr) ?_
          show Runs p e below _ (T5.setTop (mkF m 125 #[.val (.long q0), .second, .val (.long q1), .second, .val (.long q2), .second, .val (.long q3), .second, .val (.int p4), .val (.long z1), .second, .val (.long z2), .second, .val (.long z3), .second, .val (.long z4), .second, .val (.double P), .second, .val (.int (1 : Int32)), .val (.int (1 : Int32)), .unset] [(.int (cmpValue (FP.dcmp P (4600877379321698714 : UInt64)) .l))]))
          have hc125 : (cmpValue (FP.dcmp P (4600877379321698714 : UInt64)) .l) = (0 : Int32) := ((own_cz_eq nP own_nn04 _).mpr (LA (Or.inr ⟨gz, bz⟩)))
          refine Runs.by (fun _ hr => XS.ifNo X5.here hx rfl (hb hby at_125) rfl ((if0 _ _).trans (teq hc125).2) hr) ?_
          show Runs p e below _ (T5.setTop (mkF m 128 #[.val (.long q0), .second, .val (.long q1), .second, .val (.long q2), .second, .val (.long q3), .second, .val (.int p4), .val (.long z1), .second, .val (.long z2), .second, .val (.long z3), .second, .val (.long z4), .second, .val (.double P), .second, .val (.int (1 : Int32)), .val (.int (1 : Int32)), .unset] []))
          refine Runs.by (fun _ hr => XS.iconst X5.here hx rfl (hb hby at_128) hr) ?_
          show Runs p e below _ (T5.setTop (mkF m 129 #[.val (.long q0), .second, .val (.long q1), .second, .val (.long q2), .second, .val (.long q3), .second, .val (.int p4), .val (.long z1), .second, .val (.long z2), .second, .val (.long z3), .second, .val (.long z4), .second, .val (.double P), .second, .val (.int (1 : Int32)), .val (.int (1 : Int32)), .unset] [(.int (1 : Int32))]))
          refine Runs.by (fun _ hr => XS.goto X5.here hx rfl (pc0 := 129) (pc' := 133) rfl (hb hby at_129) (by decide) (by decide) hr) ?_
          show Runs p e below _ (T5.setTop (mkF m 133 #[.val (.long q0), .second, .val (.long q1), .second, .val (.long q2), .second, .val (.long q3), .second, .val (.int p4), .val (.long z1), .second, .val (.long z2), .second, .val (.long z3), .second, .val (.long z4), .second, .val (.double P), .second, .val (.int (1 : Int32)), .val (.int (1 : Int32)), .unset] [(.int (1 : Int32))]))
          refine Runs.ret X5 hx hrt hlk (Or.inl ⟨rfl, by simp, _, rfl⟩) (by rfl) (hb hby at_133) (by decide) (by decide) ?_
          rw [eq5]
          exact ⟨rfl, N5⟩
      · -- pc 76: not (lcmpW z1 (0 : Int64)) = (0 : Int32)
        refine Runs.by (fun _ hr => XS.ifNo X5.here hx rfl (hb hby at_76) rfl ((if0 _ _).trans (feq hc76).1) hr) ?_
        show Runs p e below _ (T5.setTop (mkF m 79 #[.val (.long q0), .second, .val (.long q1), .second, .val (.long q2), .second, .val (.long q3), .second, .val (.int p4), .val (.long z1), .second, .val (.long z2), .second, .val (.long z3), .second, .val (.long z4), .second, .val (.double P), .second, .val (.int (1 : Int32)), .unset, .unset] []))
        refine Runs.by (fun _ hr => XS.lload X5.here hx rfl (hb hby at_79) rfl  hr) ?_
        show Runs p e below _ (T5.setTop (mkF m 81 #[.val (.long q0), .second, .val (.long q1), .second, .val (.long q2), .second, .val (.long q3), .second, .val (.int p4), .val (.long z1), .second, .val (.long z2), .second, .val (.long z3), .second, .val (.long z4), .second, .val (.double P), .second, .val (.int (1 : Int32)), .unset, .unset] [(.long z3)]))
        refine Runs.by (fun _ hr => XS.lconst X5.here hx rfl (hb hby at_81) hr) ?_
        show Runs p e below _ (T5.setTop (mkF m 82 #[.val (.long q0), .second, .val (.long q1), .second, .val (.long q2), .second, .val (.long q3), .second, .val (.int p4), .val (.long z1), .second, .val (.long z2), .second, .val (.long z3), .second, .val (.long z4), .second, .val (.double P), .second, .val (.int (1 : Int32)), .unset, .unset] [(.long (0 : Int64)), (.long z3)]))
        refine Runs.by (fun _ hr => XS.lcmp X5.here hx rfl (hb hby at_82) rfl hr) ?_
        show Runs p e below _ (T5.setTop (mkF m 83 #[.val (.long q0), .second, .val (.long q1), .second, .val (.long q2), .second, .val (.long q3), .second, .val (.int p4), .val (.long z1), .second, .val (.long z2), .second, .val (.long z3), .second, .val (.long z4), .second, .val (.double P), .second, .val (.int (1 : Int32)), .unset, .unset] [(.int (lcmpW z3 (0 : Int64)))]))
        by_cases hc83 : (lcmpW z3 (0 : Int64)) = (0 : Int32)
        · -- pc 83: (lcmpW z3 (0 : Int64)) = (0 : Int32)
          refine Runs.by (fun _ hr => XS.ifNo X5.here hx rfl (hb hby at_83) rfl ((if0 _ _).trans (teq hc83).2) hr) ?_
          show Runs p e below _ (T5.setTop (mkF m 86 #[.val (.long q0), .second, .val (.long q1), .second, .val (.long q2), .second, .val (.long q3), .second, .val (.int p4), .val (.long z1), .second, .val (.long z2), .second, .val (.long z3), .second, .val (.long z4), .second, .val (.double P), .second, .val (.int (1 : Int32)), .unset, .unset] []))
          refine Runs.by (fun _ hr => XS.iconst X5.here hx rfl (hb hby at_86) hr) ?_
          show Runs p e below _ (T5.setTop (mkF m 87 #[.val (.long q0), .second, .val (.long q1), .second, .val (.long q2), .second, .val (.long q3), .second, .val (.int p4), .val (.long z1), .second, .val (.long z2), .second, .val (.long z3), .second, .val (.long z4), .second, .val (.double P), .second, .val (.int (1 : Int32)), .unset, .unset] [(.int (1 : Int32))]))
          refine Runs.by (fun _ hr => XS.goto X5.here hx rfl (pc0 := 87) (pc' := 91) rfl (hb hby at_87) (by decide) (by decide) hr) ?_
          show Runs p e below _ (T5.setTop (mkF m 91 #[.val (.long q0), .second, .val (.long q1), .second, .val (.long q2), .second, .val (.long q3), .second, .val (.int p4), .val (.long z1), .second, .val (.long z2), .second, .val (.long z3), .second, .val (.long z4), .second, .val (.double P), .second, .val (.int (1 : Int32)), .unset, .unset] [(.int (1 : Int32))]))
          refine Runs.by (fun _ hr => XS.istore X5.here hx rfl (hb hby at_91) rfl (l' := #[.val (.long q0), .second, .val (.long q1), .second, .val (.long q2), .second, .val (.long q3), .second, .val (.int p4), .val (.long z1), .second, .val (.long z2), .second, .val (.long z3), .second, .val (.long z4), .second, .val (.double P), .second, .val (.int (1 : Int32)), .val (.int (1 : Int32)), .unset]) rfl hr) ?_
          have bz : z1 = 0 ∨ z3 = 0 := Or.inr (own_lcz.mp hc83)
          show Runs p e below _ (T5.setTop (mkF m 93 #[.val (.long q0), .second, .val (.long q1), .second, .val (.long q2), .second, .val (.long q3), .second, .val (.int p4), .val (.long z1), .second, .val (.long z2), .second, .val (.long z3), .second, .val (.long z4), .second, .val (.double P), .second, .val (.int (1 : Int32)), .val (.int (1 : Int32)), .unset] []))
          refine Runs.by (fun _ hr => X5.ldc2J hx hown (mvT hZ (hw _ (List.mem_of_getElem? (i := 24) rfl))) (g := (mkF m 93 #[.val (.long q0), .second, .val (.long q1), .second, .val (.long q2), .second, .val (.long q3), .second, .val (.int p4), .val (.long z1), .second, .val (.long z2), .second, .val (.long z3), .second, .val (.long z4), .second, .val (.double P), .second, .val (.int (1 : Int32)), .val (.int (1 : Int32)), .unset] [])) rfl (hb hby at_93) hr) ?_
          show Runs p e below _ (T5.setTop (mkF m 96 #[.val (.long q0), .second, .val (.long q1), .second, .val (.long q2), .second, .val (.long q3), .second, .val (.int p4), .val (.long z1), .second, .val (.long z2), .second, .val (.long z3), .second, .val (.long z4), .second, .val (.double P), .second, .val (.int (1 : Int32)), .val (.int (1 : Int32)), .unset] [(.long (2 : Int64))]))
          refine Runs.by (fun _ hr => XS.lload X5.here hx rfl (hb hby at_96) rfl  hr) ?_
          show Runs p e below _ (T5.setTop (mkF m 98 #[.val (.long q0), .second, .val (.long q1), .second, .val (.long q2), .second, .val (.long q3), .second, .val (.int p4), .val (.long z1), .second, .val (.long z2), .second, .val (.long z3), .second, .val (.long z4), .second, .val (.double P), .second, .val (.int (1 : Int32)), .val (.int (1 : Int32)), .unset] [(.long z2), (.long (2 : Int64))]))
          refine Runs.by (fun _ hr => XS.lmul X5.here hx rfl (hb hby at_98) rfl hr) ?_
          show Runs p e below _ (T5.setTop (mkF m 99 #[.val (.long q0), .second, .val (.long q1), .second, .val (.long q2), .second, .val (.long q3), .second, .val (.int p4), .val (.long z1), .second, .val (.long z2), .second, .val (.long z3), .second, .val (.long z4), .second, .val (.double P), .second, .val (.int (1 : Int32)), .val (.int (1 : Int32)), .unset] [(.long ((2 : Int64) * z2))]))
          refine Runs.by (fun _ hr => XS.lload X5.here hx rfl (hb hby at_99) rfl  hr) ?_
          show Runs p e below _ (T5.setTop (mkF m 101 #[.val (.long q0), .second, .val (.long q1), .second, .val (.long q2), .second, .val (.long q3), .second, .val (.int p4), .val (.long z1), .second, .val (.long z2), .second, .val (.long z3), .second, .val (.long z4), .second, .val (.double P), .second, .val (.int (1 : Int32)), .val (.int (1 : Int32)), .unset] [(.long z1), (.long ((2 : Int64) * z2))]))
          refine Runs.by (fun _ hr => XS.ladd X5.here hx rfl (hb hby at_101) rfl hr) ?_
          show Runs p e below _ (T5.setTop (mkF m 102 #[.val (.long q0), .second, .val (.long q1), .second, .val (.long q2), .second, .val (.long q3), .second, .val (.int p4), .val (.long z1), .second, .val (.long z2), .second, .val (.long z3), .second, .val (.long z4), .second, .val (.double P), .second, .val (.int (1 : Int32)), .val (.int (1 : Int32)), .unset] [(.long (((2 : Int64) * z2) + z1))]))
          refine Runs.by (fun _ hr => X5.ldc2J hx hown (mvT hZ (hw _ (List.mem_of_getElem? (i := 25) rfl))) (g := (mkF m 102 #[.val (.long q0), .second, .val (.long q1), .second, .val (.long q2), .second, .val (.long q3), .second, .val (.int p4), .val (.long z1), .second, .val (.long z2), .second, .val (.long z3), .second, .val (.long z4), .second, .val (.double P), .second, .val (.int (1 : Int32)), .val (.int (1 : Int32)), .unset] [(.long (((2 : Int64) * z2) + z1))])) rfl (hb hby at_102) hr) ?_
          show Runs p e below _ (T5.setTop (mkF m 105 #[.val (.long q0), .second, .val (.long q1), .second, .val (.long q2), .second, .val (.long q3), .second, .val (.int p4), .val (.long z1), .second, .val (.long z2), .second, .val (.long z3), .second, .val (.long z4), .second, .val (.double P), .second, .val (.int (1 : Int32)), .val (.int (1 : Int32)), .unset] [(.long (5 : Int64)), (.long (((2 : Int64) * z2) + z1))]))
          refine Runs.by (fun _ hr => XS.lcmp X5.here hx rfl (hb hby at_105) rfl hr) ?_
          show Runs p e below _ (T5.setTop (mkF m 106 #[.val (.long q0), .second, .val (.long q1), .second, .val (.long q2), .second, .val (.long q3), .second, .val (.int p4), .val (.long z1), .second, .val (.long z2), .second, .val (.long z3), .second, .val (.long z4), .second, .val (.double P), .second, .val (.int (1 : Int32)), .val (.int (1 : Int32)), .unset] [(.int (lcmpW (((2 : Int64) * z2) + z1) (5 : Int64)))]))
          by_cases hc106 : (lcmpW (((2 : Int64) * z2) + z1) (5 : Int64)) < (0 : Int32)
          · -- pc 106: (lcmpW (((2 : Int64) * z2) + z1) (5 : Int64)) < (0 : Int32)
            refine Runs.by (fun _ hr => XS.ifYes X5.here hx rfl (pc0 := 106) (pc' := 119) rfl (hb hby at_106) rfl ((if0 _ _).trans (tlt hc106).1) (by decide) (by decide) hr) ?_
            show Runs p e below _ (T5.setTop (mkF m 119 #[.val (.long q0), .second, .val (.long q1), .second, .val (.long q2), .second, .val (.long q3), .second, .val (.int p4), .val (.long z1), .second, .val (.long z2), .second, .val (.long z3), .second, .val (.long z4), .second, .val (.double P), .second, .val (.int (1 : Int32)), .val (.int (1 : Int32)), .unset] []))
            refine Runs.by (fun _ hr => XS.dload X5.here hx rfl (hb hby at_119) rfl  hr) ?_
            show Runs p e below _ (T5.setTop (mkF m 121 #[.val (.long q0), .second, .val (.long q1), .second, .val (.long q2), .second, .val (.long q3), .second, .val (.int p4), .val (.long z1), .second, .val (.long z2), .second, .val (.long z3), .second, .val (.long z4), .second, .val (.double P), .second, .val (.int (1 : Int32)), .val (.int (1 : Int32)), .unset] [(.double P)]))
            refine Runs.by (fun t hr => X5.ldc2DoubleC hx hown (mvT hZ (hw _ (List.mem_of_getElem? (i := 33) rfl))) (g := (mkF m 121 #[.val (.long q0), .second, .val (.long q1), .second, .val (.long q2), .second, .val (.long q3), .second, .val (.int p4), .val (.long z1), .second, .val (.long z2), .second, .val (.long z3), .second, .val (.long z4), .second, .val (.double P), .second, .val (.int (1 : Int32)), .val (.int (1 : Int32)), .unset] [(.double P)])) rfl (hb hby at_121) t hr) ?_
            show Runs p e below _ (T5.setTop (mkF m 124 #[.val (.long q0), .second, .val (.long q1), .second, .val (.long q2), .second, .val (.long q3), .second, .val (.int p4), .val (.long z1), .second, .val (.long z2), .second, .val (.long z3), .second, .val (.long z4), .second, .val (.double P), .second, .val (.int (1 : Int32)), .val (.int (1 : Int32)), .unset] [(.double (4600877379321698714 : UInt64)), (.double P)]))
            refine Runs.by (fun _ hr => XS.dcmpS X5.here hx rfl (hb hby at_124) rfl rfl hr) ?_
            show Runs p e below _ (T5.setTop (mkF m 125 #[.val (.long q0), .second, .val (.long q1), .second, .val (.long q2), .second, .val (.long q3), .second, .val (.int p4), .val (.long z1), .second, .val (.long z2), .second, .val (.long z3), .second, .val (.long z4), .second, .val (.double P), .second, .val (.int (1 : Int32)), .val (.int (1 : Int32)), .unset] [(.int (cmpValue (FP.dcmp P (4600877379321698714 : UInt64)) .l))]))
            have hc125 : (cmpValue (FP.dcmp P (4600877379321698714 : UInt64)) .l) = (0 : Int32) := ((own_cz_eq nP own_nn04 _).mpr (LA (Or.inl (own_lt5.mp hc106))))
            refine Runs.by (fun _ hr => XS.ifNo X5.here hx rfl (hb hby at_125) rfl ((if0 _ _).trans (teq hc125).2) hr) ?_
            show Runs p e below _ (T5.setTop (mkF m 128 #[.val (.long q0), .second, .val (.long q1), .second, .val (.long q2), .second, .val (.long q3), .second, .val (.int p4), .val (.long z1), .second, .val (.long z2), .second, .val (.long z3), .second, .val (.long z4), .second, .val (.double P), .second, .val (.int (1 : Int32)), .val (.int (1 : Int32)), .unset] []))
            refine Runs.by (fun _ hr => XS.iconst X5.here hx rfl (hb hby at_128) hr) ?_
            show Runs p e below _ (T5.setTop (mkF m 129 #[.val (.long q0), .second, .val (.long q1), .second, .val (.long q2), .second, .val (.long q3), .second, .val (.int p4), .val (.long z1), .second, .val (.long z2), .second, .val (.long z3), .second, .val (.long z4), .second, .val (.double P), .second, .val (.int (1 : Int32)), .val (.int (1 : Int32)), .unset] [(.int (1 : Int32))]))
            refine Runs.by (fun _ hr => XS.goto X5.here hx rfl (pc0 := 129) (pc' := 133) rfl (hb hby at_129) (by decide) (by decide) hr) ?_
            show Runs p e below _ (T5.setTop (mkF m 133 #[.val (.long q0), .second, .val (.long q1), .second, .val (.long q2), .second, .val (.long q3), .second, .val (.int p4), .val (.long z1), .second, .val (.long z2), .second, .val (.long z3), .second, .val (.long z4), .second, .val (.double P), .second, .val (.int (1 : Int32)), .val (.int (1 : Int32)), .unset] [(.int (1 : Int32))]))
            refine Runs.ret X5 hx hrt hlk (Or.inl ⟨rfl, by simp, _, rfl⟩) (by rfl) (hb hby at_133) (by decide) (by decide) ?_
            rw [eq5]
            exact ⟨rfl, N5⟩
          · -- pc 106: not (lcmpW (((2 : Int64) * z2) + z1) (5 : Int64)) < (0 : Int32)
            refine Runs.by (fun _ hr => XS.ifNo X5.here hx rfl (hb hby at_106) rfl ((if0 _ _).trans (flt hc106).1) hr) ?_
            show Runs p e below _ (T5.setTop (mkF m 109 #[.val (.long q0), .second, .val (.long q1), .second, .val (.long q2), .second, .val (.long q3), .second, .val (.int p4), .val (.long z1), .second, .val (.long z2), .second, .val (.long z3), .second, .val (.long z4), .second, .val (.double P), .second, .val (.int (1 : Int32)), .val (.int (1 : Int32)), .unset] []))
            refine Runs.by (fun _ hr => XS.iload X5.here hx rfl (hb hby at_109) rfl  hr) ?_
            show Runs p e below _ (T5.setTop (mkF m 111 #[.val (.long q0), .second, .val (.long q1), .second, .val (.long q2), .second, .val (.long q3), .second, .val (.int p4), .val (.long z1), .second, .val (.long z2), .second, .val (.long z3), .second, .val (.long z4), .second, .val (.double P), .second, .val (.int (1 : Int32)), .val (.int (1 : Int32)), .unset] [(.int (1 : Int32))]))
            have hc111 : ¬ ((1 : Int32) = (0 : Int32)) := (by decide)
            refine Runs.by (fun _ hr => XS.ifNo X5.here hx rfl (hb hby at_111) rfl ((if0 _ _).trans (feq hc111).1) hr) ?_
            show Runs p e below _ (T5.setTop (mkF m 114 #[.val (.long q0), .second, .val (.long q1), .second, .val (.long q2), .second, .val (.long q3), .second, .val (.int p4), .val (.long z1), .second, .val (.long z2), .second, .val (.long z3), .second, .val (.long z4), .second, .val (.double P), .second, .val (.int (1 : Int32)), .val (.int (1 : Int32)), .unset] []))
            refine Runs.by (fun _ hr => XS.iload X5.here hx rfl (hb hby at_114) rfl  hr) ?_
            show Runs p e below _ (T5.setTop (mkF m 116 #[.val (.long q0), .second, .val (.long q1), .second, .val (.long q2), .second, .val (.long q3), .second, .val (.int p4), .val (.long z1), .second, .val (.long z2), .second, .val (.long z3), .second, .val (.long z4), .second, .val (.double P), .second, .val (.int (1 : Int32)), .val (.int (1 : Int32)), .unset] [(.int (1 : Int32))]))
            have hc116 : ¬ ((1 : Int32) = (0 : Int32)) := (by decide)
            refine Runs.by (fun _ hr => XS.ifNo X5.here hx rfl (hb hby at_116) rfl ((if0 _ _).trans (feq hc116).1) hr) ?_
            show Runs p e below _ (T5.setTop (mkF m 119 #[.val (.long q0), .second, .val (.long q1), .second, .val (.long q2), .second, .val (.long q3), .second, .val (.int p4), .val (.long z1), .second, .val (.long z2), .second, .val (.long z3), .second, .val (.long z4), .second, .val (.double P), .second, .val (.int (1 : Int32)), .val (.int (1 : Int32)), .unset] []))
            refine Runs.by (fun _ hr => XS.dload X5.here hx rfl (hb hby at_119) rfl  hr) ?_
            show Runs p e below _ (T5.setTop (mkF m 121 #[.val (.long q0), .second, .val (.long q1), .second, .val (.long q2), .second, .val (.long q3), .second, .val (.int p4), .val (.long z1), .second, .val (.long z2), .second, .val (.long z3), .second, .val (.long z4), .second, .val (.double P), .second, .val (.int (1 : Int32)), .val (.int (1 : Int32)), .unset] [(.double P)]))
            refine Runs.by (fun t hr => X5.ldc2DoubleC hx hown (mvT hZ (hw _ (List.mem_of_getElem? (i := 33) rfl))) (g := (mkF m 121 #[.val (.long q0), .second, .val (.long q1), .second, .val (.long q2), .second, .val (.long q3), .second, .val (.int p4), .val (.long z1), .second, .val (.long z2), .second, .val (.long z3), .second, .val (.long z4), .second, .val (.double P), .second, .val (.int (1 : Int32)), .val (.int (1 : Int32)), .unset] [(.double P)])) rfl (hb hby at_121) t hr) ?_
            show Runs p e below _ (T5.setTop (mkF m 124 #[.val (.long q0), .second, .val (.long q1), .second, .val (.long q2), .second, .val (.long q3), .second, .val (.int p4), .val (.long z1), .second, .val (.long z2), .second, .val (.long z3), .second, .val (.long z4), .second, .val (.double P), .second, .val (.int (1 : Int32)), .val (.int (1 : Int32)), .unset] [(.double (4600877379321698714 : UInt64)), (.double P)]))
            refine Runs.by (fun _ hr => XS.dcmpS X5.here hx rfl (hb hby at_124) rfl rfl hr) ?_
            show Runs p e below _ (T5.setTop (mkF m 125 #[.val (.long q0), .second, .val (.long q1), .second, .val (.long q2), .second, .val (.long q3), .second, .val (.int p4), .val (.long z1), .second, .val (.long z2), .second, .val (.long z3), .second, .val (.long z4), .second, .val (.double P), .second, .val (.int (1 : Int32)), .val (.int (1 : Int32)), .unset] [(.int (cmpValue (FP.dcmp P (4600877379321698714 : UInt64)) .l))]))
            have hc125 : (cmpValue (FP.dcmp P (4600877379321698714 : UInt64)) .l) = (0 : Int32) := ((own_cz_eq nP own_nn04 _).mpr (LA (Or.inr ⟨gz, bz⟩)))
            refine Runs.by (fun _ hr => XS.ifNo X5.here hx rfl (hb hby at_125) rfl ((if0 _ _).trans (teq hc125).2) hr) ?_
            show Runs p e below _ (T5.setTop (mkF m 128 #[.val (.long q0), .second, .val (.long q1), .second, .val (.long q2), .second, .val (.long q3), .second, .val (.int p4), .val (.long z1), .second, .val (.long z2), .second, .val (.long z3), .second, .val (.long z4), .second, .val (.double P), .second, .val (.int (1 : Int32)), .val (.int (1 : Int32)), .unset] []))
            refine Runs.by (fun _ hr => XS.iconst X5.here hx rfl (hb hby at_128) hr) ?_
            show Runs p e below _ (T5.setTop (mkF m 129 #[.val (.long q0), .second, .val (.long q1), .second, .val (.long q2), .second, .val (.long q3), .second, .val (.int p4), .val (.long z1), .second, .val (.long z2), .second, .val (.long z3), .second, .val (.long z4), .second, .val (.double P), .second, .val (.int (1 : Int32)), .val (.int (1 : Int32)), .unset] [(.int (1 : Int32))]))
            refine Runs.by (fun _ hr => XS.goto X5.here hx rfl (pc0 := 129) (pc' := 133) rfl (hb hby at_129) (by decide) (by decide) hr) ?_
            show Runs p e below _ (T5.setTop (mkF m 133 #[.val (.long q0), .second, .val (.long q1), .second, .val (.long q2), .second, .val (.long q3), .second, .val (.int p4), .val (.long z1), .second, .val (.long z2), .second, .val (.long z3), .second, .val (.long z4), .second, .val (.double P), .second, .val (.int (1 : Int32)), .val (.int (1 : Int32)), .unset] [(.int (1 : Int32))]))
            refine Runs.ret X5 hx hrt hlk (Or.inl ⟨rfl, by simp, _, rfl⟩) (by rfl) (hb hby at_133) (by decide) (by decide) ?_
            rw [eq5]
            exact ⟨rfl, N5⟩
        · -- pc 83: not (lcmpW z3 (0 : Int64)) = (0 : Int32)
          refine Runs.by (fun _ hr => XS.ifYes X5.here hx rfl (pc0 := 83) (pc' := 90) rfl (hb hby at_83) rfl ((if0 _ _).trans (feq hc83).2) (by decide) (by decide) hr) ?_
          show Runs p e below _ (T5.setTop (mkF m 90 #[.val (.long q0), .second, .val (.long q1), .second, .val (.long q2), .second, .val (.long q3), .second, .val (.int p4), .val (.long z1), .second, .val (.long z2), .second, .val (.long z3), .second, .val (.long z4), .second, .val (.double P), .second, .val (.int (1 : Int32)), .unset, .unset] []))
          refine Runs.by (fun _ hr => XS.iconst X5.here hx rfl (hb hby at_90) hr) ?_
          show Runs p e below _ (T5.setTop (mkF m 91 #[.val (.long q0), .second, .val (.long q1), .second, .val (.long q2), .second, .val (.long q3), .second, .val (.int p4), .val (.long z1), .second, .val (.long z2), .second, .val (.long z3), .second, .val (.long z4), .second, .val (.double P), .second, .val (.int (1 : Int32)), .unset, .unset] [(.int (0 : Int32))]))
          refine Runs.by (fun _ hr => XS.istore X5.here hx rfl (hb hby at_91) rfl (l' := #[.val (.long q0), .second, .val (.long q1), .second, .val (.long q2), .second, .val (.long q3), .second, .val (.int p4), .val (.long z1), .second, .val (.long z2), .second, .val (.long z3), .second, .val (.long z4), .second, .val (.double P), .second, .val (.int (1 : Int32)), .val (.int (0 : Int32)), .unset]) rfl hr) ?_
          have bz : ¬ (z1 = 0 ∨ z3 = 0) := fun z => z.elim (fun q => hc76 (own_lcz.mpr q)) (fun q => hc83 (own_lcz.mpr q))
          show Runs p e below _ (T5.setTop (mkF m 93 #[.val (.long q0), .second, .val (.long q1), .second, .val (.long q2), .second, .val (.long q3), .second, .val (.int p4), .val (.long z1), .second, .val (.long z2), .second, .val (.long z3), .second, .val (.long z4), .second, .val (.double P), .second, .val (.int (1 : Int32)), .val (.int (0 : Int32)), .unset] []))
          refine Runs.by (fun _ hr => X5.ldc2J hx hown (mvT hZ (hw _ (List.mem_of_getElem? (i := 24) rfl))) (g := (mkF m 93 #[.val (.long q0), .second, .val (.long q1), .second, .val (.long q2), .second, .val (.long q3), .second, .val (.int p4), .val (.long z1), .second, .val (.long z2), .second, .val (.long z3), .second, .val (.long z4), .second, .val (.double P), .second, .val (.int (1 : Int32)), .val (.int (0 : Int32)), .unset] [])) rfl (hb hby at_93) hr) ?_
          show Runs p e below _ (T5.setTop (mkF m 96 #[.val (.long q0), .second, .val (.long q1), .second, .val (.long q2), .second, .val (.long q3), .second, .val (.int p4), .val (.long z1), .second, .val (.long z2), .second, .val (.long z3), .second, .val (.long z4), .second, .val (.double P), .second, .val (.int (1 : Int32)), .val (.int (0 : Int32)), .unset] [(.long (2 : Int64))]))
          refine Runs.by (fun _ hr => XS.lload X5.here hx rfl (hb hby at_96) rfl  hr) ?_
          show Runs p e below _ (T5.setTop (mkF m 98 #[.val (.long q0), .second, .val (.long q1), .second, .val (.long q2), .second, .val (.long q3), .second, .val (.int p4), .val (.long z1), .second, .val (.long z2), .second, .val (.long z3), .second, .val (.long z4), .second, .val (.double P), .second, .val (.int (1 : Int32)), .val (.int (0 : Int32)), .unset] [(.long z2), (.long (2 : Int64))]))
          refine Runs.by (fun _ hr => XS.lmul X5.here hx rfl (hb hby at_98) rfl hr) ?_
          show Runs p e below _ (T5.setTop (mkF m 99 #[.val (.long q0), .second, .val (.long q1), .second, .val (.long q2), .second, .val (.long q3), .second, .val (.int p4), .val (.long z1), .second, .val (.long z2), .second, .val (.long z3), .second, .val (.long z4), .second, .val (.double P), .second, .val (.int (1 : Int32)), .val (.int (0 : Int32)), .unset] [(.long ((2 : Int64) * z2))]))
          refine Runs.by (fun _ hr => XS.lload X5.here hx rfl (hb hby at_99) rfl  hr) ?_
          show Runs p e below _ (T5.setTop (mkF m 101 #[.val (.long q0), .second, .val (.long q1), .second, .val (.long q2), .second, .val (.long q3), .second, .val (.int p4), .val (.long z1), .second, .val (.long z2), .second, .val (.long z3), .second, .val (.long z4), .second, .val (.double P), .second, .val (.int (1 : Int32)), .val (.int (0 : Int32)), .unset] [(.long z1), (.long ((2 : Int64) * z2))]))
          refine Runs.by (fun _ hr => XS.ladd X5.here hx rfl (hb hby at_101) rfl hr) ?_
          show Runs p e below _ (T5.setTop (mkF m 102 #[.val (.long q0), .second, .val (.long q1), .second, .val (.long q2), .second, .val (.long q3), .second, .val (.int p4), .val (.long z1), .second, .val (.long z2), .second, .val (.long z3), .second, .val (.long z4), .second, .val (.double P), .second, .val (.int (1 : Int32)), .val (.int (0 : Int32)), .unset] [(.long (((2 : Int64) * z2) + z1))]))
          refine Runs.by (fun _ hr => X5.ldc2J hx hown (mvT hZ (hw _ (List.mem_of_getElem? (i := 25) rfl))) (g := (mkF m 102 #[.val (.long q0), .second, .val (.long q1), .second, .val (.long q2), .second, .val (.long q3), .second, .val (.int p4), .val (.long z1), .second, .val (.long z2), .second, .val (.long z3), .second, .val (.long z4), .second, .val (.double P), .second, .val (.int (1 : Int32)), .val (.int (0 : Int32)), .unset] [(.long (((2 : Int64) * z2) + z1))])) rfl (hb hby at_102) hr) ?_
          show Runs p e below _ (T5.setTop (mkF m 105 #[.val (.long q0), .second, .val (.long q1), .second, .val (.long q2), .second, .val (.long q3), .second, .val (.int p4), .val (.long z1), .second, .val (.long z2), .second, .val (.long z3), .second, .val (.long z4), .second, .val (.double P), .second, .val (.int (1 : Int32)), .val (.int (0 : Int32)), .unset] [(.long (5 : Int64)), (.long (((2 : Int64) * z2) + z1))]))
          refine Runs.by (fun _ hr => XS.lcmp X5.here hx rfl (hb hby at_105) rfl hr) ?_
          show Runs p e below _ (T5.setTop (mkF m 106 #[.val (.long q0), .second, .val (.long q1), .second, .val (.long q2), .second, .val (.long q3), .second, .val (.int p4), .val (.long z1), .second, .val (.long z2), .second, .val (.long z3), .second, .val (.long z4), .second, .val (.double P), .second, .val (.int (1 : Int32)), .val (.int (0 : Int32)), .unset] [(.int (lcmpW (((2 : Int64) * z2) + z1) (5 : Int64)))]))
          by_cases hc106 : (lcmpW (((2 : Int64) * z2) + z1) (5 : Int64)) < (0 : Int32)
          · -- pc 106: (lcmpW (((2 : Int64) * z2) + z1) (5 : Int64)) < (0 : Int32)
            refine Runs.by (fun _ hr => XS.ifYes X5.here hx rfl (pc0 := 106) (pc' := 119) rfl (hb hby at_106) rfl ((if0 _ _).trans (tlt hc106).1) (by decide) (by decide) hr) ?_
            show Runs p e below _ (T5.setTop (mkF m 119 #[.val (.long q0), .second, .val (.long q1), .second, .val (.long q2), .second, .val (.long q3), .second, .val (.int p4), .val (.long z1), .second, .val (.long z2), .second, .val (.long z3), .second, .val (.long z4), .second, .val (.double P), .second, .val (.int (1 : Int32)), .val (.int (0 : Int32)), .unset] []))
            refine Runs.by (fun _ hr => XS.dload X5.here hx rfl (hb hby at_119) rfl  hr) ?_
            show Runs p e below _ (T5.setTop (mkF m 121 #[.val (.long q0), .second, .val (.long q1), .second, .val (.long q2), .second, .val (.long q3), .second, .val (.int p4), .val (.long z1), .second, .val (.long z2), .second, .val (.long z3), .second, .val (.long z4), .second, .val (.double P), .second, .val (.int (1 : Int32)), .val (.int (0 : Int32)), .unset] [(.double P)]))
            refine Runs.by (fun t hr => X5.ldc2DoubleC hx hown (mvT hZ (hw _ (List.mem_of_getElem? (i := 33) rfl))) (g := (mkF m 121 #[.val (.long q0), .second, .val (.long q1), .second, .val (.long q2), .second, .val (.long q3), .second, .val (.int p4), .val (.long z1), .second, .val (.long z2), .second, .val (.long z3), .second, .val (.long z4), .second, .val (.double P), .second, .val (.int (1 : Int32)), .val (.int (0 : Int32)), .unset] [(.double P)])) rfl (hb hby at_121) t hr) ?_
            show Runs p e below _ (T5.setTop (mkF m 124 #[.val (.long q0), .second, .val (.long q1), .second, .val (.long q2), .second, .val (.long q3), .second, .val (.int p4), .val (.long z1), .second, .val (.long z2), .second, .val (.long z3), .second, .val (.long z4), .second, .val (.double P), .second, .val (.int (1 : Int32)), .val (.int (0 : Int32)), .unset] [(.double (4600877379321698714 : UInt64)), (.double P)]))
            refine Runs.by (fun _ hr => XS.dcmpS X5.here hx rfl (hb hby at_124) rfl rfl hr) ?_
            show Runs p e below _ (T5.setTop (mkF m 125 #[.val (.long q0), .second, .val (.long q1), .second, .val (.long q2), .second, .val (.long q3), .second, .val (.int p4), .val (.long z1), .second, .val (.long z2), .second, .val (.long z3), .second, .val (.long z4), .second, .val (.double P), .second, .val (.int (1 : Int32)), .val (.int (0 : Int32)), .unset] [(.int (cmpValue (FP.dcmp P (4600877379321698714 : UInt64)) .l))]))
            have hc125 : (cmpValue (FP.dcmp P (4600877379321698714 : UInt64)) .l) = (0 : Int32) := ((own_cz_eq nP own_nn04 _).mpr (LA (Or.inl (own_lt5.mp hc106))))
            refine Runs.by (fun _ hr => XS.ifNo X5.here hx rfl (hb hby at_125) rfl ((if0 _ _).trans (teq hc125).2) hr) ?_
            show Runs p e below _ (T5.setTop (mkF m 128 #[.val (.long q0), .second, .val (.long q1), .second, .val (.long q2), .second, .val (.long q3), .second, .val (.int p4), .val (.long z1), .second, .val (.long z2), .second, .val (.long z3), .second, .val (.long z4), .second, .val (.double P), .second, .val (.int (1 : Int32)), .val (.int (0 : Int32)), .unset] []))
            refine Runs.by (fun _ hr => XS.iconst X5.here hx rfl (hb hby at_128) hr) ?_
            show Runs p e below _ (T5.setTop (mkF m 129 #[.val (.long q0), .second, .val (.long q1), .second, .val (.long q2), .second, .val (.long q3), .second, .val (.int p4), .val (.long z1), .second, .val (.long z2), .second, .val (.long z3), .second, .val (.long z4), .second, .val (.double P), .second, .val (.int (1 : Int32)), .val (.int (0 : Int32)), .unset] [(.int (1 : Int32))]))
            refine Runs.by (fun _ hr => XS.goto X5.here hx rfl (pc0 := 129) (pc' := 133) rfl (hb hby at_129) (by decide) (by decide) hr) ?_
            show Runs p e below _ (T5.setTop (mkF m 133 #[.val (.long q0), .second, .val (.long q1), .second, .val (.long q2), .second, .val (.long q3), .second, .val (.int p4), .val (.long z1), .second, .val (.long z2), .second, .val (.long z3), .second, .val (.long z4), .second, .val (.double P), .second, .val (.int (1 : Int32)), .val (.int (0 : Int32)), .unset] [(.int (1 : Int32))]))
            refine Runs.ret X5 hx hrt hlk (Or.inl ⟨rfl, by simp, _, rfl⟩) (by rfl) (hb hby at_133) (by decide) (by decide) ?_
            rw [eq5]
            exact ⟨rfl, N5⟩
          · -- pc 106: not (lcmpW (((2 : Int64) * z2) + z1) (5 : Int64)) < (0 : Int32)
            refine Runs.by (fun _ hr => XS.ifNo X5.here hx rfl (hb hby at_106) rfl ((if0 _ _).trans (flt hc106).1) hr) ?_
            show Runs p e below _ (T5.setTop (mkF m 109 #[.val (.long q0), .second, .val (.long q1), .second, .val (.long q2), .second, .val (.long q3), .second, .val (.int p4), .val (.long z1), .second, .val (.long z2), .second, .val (.long z3), .second, .val (.long z4), .second, .val (.double P), .second, .val (.int (1 : Int32)), .val (.int (0 : Int32)), .unset] []))
            refine Runs.by (fun _ hr => XS.iload X5.here hx rfl (hb hby at_109) rfl  hr) ?_
            show Runs p e below _ (T5.setTop (mkF m 111 #[.val (.long q0), .second, .val (.long q1), .second, .val (.long q2), .second, .val (.long q3), .second, .val (.int p4), .val (.long z1), .second, .val (.long z2), .second, .val (.long z3), .second, .val (.long z4), .second, .val (.double P), .second, .val (.int (1 : Int32)), .val (.int (0 : Int32)), .unset] [(.int (1 : Int32))]))
            have hc111 : ¬ ((1 : Int32) = (0 : Int32)) := (by decide)
            refine Runs.by (fun _ hr => XS.ifNo X5.here hx rfl (hb hby at_111) rfl ((if0 _ _).trans (feq hc111).1) hr) ?_
            show Runs p e below _ (T5.setTop (mkF m 114 #[.val (.long q0), .second, .val (.long q1), .second, .val (.long q2), .second, .val (.long q3), .second, .val (.int p4), .val (.long z1), .second, .val (.long z2), .second, .val (.long z3), .second, .val (.long z4), .second, .val (.double P), .second, .val (.int (1 : Int32)), .val (.int (0 : Int32)), .unset] []))
            refine Runs.by (fun _ hr => XS.iload X5.here hx rfl (hb hby at_114) rfl  hr) ?_
            show Runs p e below _ (T5.setTop (mkF m 116 #[.val (.long q0), .second, .val (.long q1), .second, .val (.long q2), .second, .val (.long q3), .second, .val (.int p4), .val (.long z1), .second, .val (.long z2), .second, .val (.long z3), .second, .val (.long z4), .second, .val (.double P), .second, .val (.int (1 : Int32)), .val (.int (0 : Int32)), .unset] [(.int (0 : Int32))]))
            have hc116 : (0 : Int32) = (0 : Int32) := (by decide)
            refine Runs.by (fun _ hr => XS.ifYes X5.here hx rfl (pc0 := 116) (pc' := 134) rfl (hb hby at_116) rfl ((if0 _ _).trans (teq hc116).1) (by decide) (by decide) hr) ?_
            show Runs p e below _ (T5.setTop (mkF m 134 #[.val (.long q0), .second, .val (.long q1), .second, .val (.long q2), .second, .val (.long q3), .second, .val (.int p4), .val (.long z1), .second, .val (.long z2), .second, .val (.long z3), .second, .val (.long z4), .second, .val (.double P), .second, .val (.int (1 : Int32)), .val (.int (0 : Int32)), .unset] []))
            refine Runs.by (fun _ hr => XS.iload X5.here hx rfl (hb hby at_134) rfl  hr) ?_
            show Runs p e below _ (T5.setTop (mkF m 136 #[.val (.long q0), .second, .val (.long q1), .second, .val (.long q2), .second, .val (.long q3), .second, .val (.int p4), .val (.long z1), .second, .val (.long z2), .second, .val (.long z3), .second, .val (.long z4), .second, .val (.double P), .second, .val (.int (1 : Int32)), .val (.int (0 : Int32)), .unset] [(.int (1 : Int32))]))
            have hc136 : ¬ ((1 : Int32) = (0 : Int32)) := (by decide)
            refine Runs.by (fun _ hr => XS.ifNo X5.here hx rfl (hb hby at_136) rfl ((if0 _ _).trans (feq hc136).1) hr) ?_
            show Runs p e below _ (T5.setTop (mkF m 139 #[.val (.long q0), .second, .val (.long q1), .second, .val (.long q2), .second, .val (.long q3), .second, .val (.int p4), .val (.long z1), .second, .val (.long z2), .second, .val (.long z3), .second, .val (.long z4), .second, .val (.double P), .second, .val (.int (1 : Int32)), .val (.int (0 : Int32)), .unset] []))
            refine Runs.by (fun _ hr => XS.dload X5.here hx rfl (hb hby at_139) rfl  hr) ?_
            show Runs p e below _ (T5.setTop (mkF m 141 #[.val (.long q0), .second, .val (.long q1), .second, .val (.long q2), .second, .val (.long q3), .second, .val (.int p4), .val (.long z1), .second, .val (.long z2), .second, .val (.long z3), .second, .val (.long z4), .second, .val (.double P), .second, .val (.int (1 : Int32)), .val (.int (0 : Int32)), .unset] [(.double P)]))
            refine Runs.by (fun t hr => X5.ldc2DoubleC hx hown (mvT hZ (hw _ (List.mem_of_getElem? (i := 27) rfl))) (g := (mkF m 141 #[.val (.long q0), .second, .val (.long q1), .second, .val (.long q2), .second, .val (.long q3), .second, .val (.int p4), .val (.long z1), .second, .val (.long z2), .second, .val (.long z3), .second, .val (.long z4), .second, .val (.double P), .second, .val (.int (1 : Int32)), .val (.int (0 : Int32)), .unset] [(.double P)])) rfl (hb hby at_141) t hr) ?_
            show Runs p e below _ (T5.setTop (mkF m 144 #[.val (.long q0), .second, .val (.long q1), .second, .val (.long q2), .second, .val (.long q3), .second, .val (.int p4), .val (.long z1), .second, .val (.long z2), .second, .val (.long z3), .second, .val (.long z4), .second, .val (.double P), .second, .val (.int (1 : Int32)), .val (.int (0 : Int32)), .unset] [(.double (4607092346807469998 : UInt64)), (.double P)]))
            refine Runs.by (fun _ hr => XS.dcmpS X5.here hx rfl (hb hby at_144) rfl rfl hr) ?_
            show Runs p e below _ (T5.setTop (mkF m 145 #[.val (.long q0), .second, .val (.long q1), .second, .val (.long q2), .second, .val (.long q3), .second, .val (.int p4), .val (.long z1), .second, .val (.long z2), .second, .val (.long z3), .second, .val (.long z4), .second, .val (.double P), .second, .val (.int (1 : Int32)), .val (.int (0 : Int32)), .unset] [(.int (cmpValue (FP.dcmp P (4607092346807469998 : UInt64)) .l))]))
            have hc145 : (cmpValue (FP.dcmp P (4607092346807469998 : UInt64)) .l) = (0 : Int32) := ((own_cz_eq nP own_nn99 _).mpr (LB (fun q => hc106 (own_lt5.mpr q)) gz bz))
            refine Runs.by (fun _ hr => XS.ifNo X5.here hx rfl (hb hby at_145) rfl ((if0 _ _).trans (teq hc145).2) hr) ?_
            show Runs p e below _ (T5.setTop (mkF m 148 #[.val (.long q0), .second, .val (.long q1), .second, .val (.long q2), .second, .val (.long q3), .second, .val (.int p4), .val (.long z1), .second, .val (.long z2), .second, .val (.long z3), .second, .val (.long z4), .second, .val (.double P), .second, .val (.int (1 : Int32)), .val (.int (0 : Int32)), .unset] []))
            refine Runs.by (fun _ hr => XS.iconst X5.here hx rfl (hb hby at_148) hr) ?_
            show Runs p e below _ (T5.setTop (mkF m 149 #[.val (.long q0), .second, .val (.long q1), .second, .val (.long q2), .second, .val (.long q3), .second, .val (.int p4), .val (.long z1), .second, .val (.long z2), .second, .val (.long z3), .second, .val (.long z4), .second, .val (.double P), .second, .val (.int (1 : Int32)), .val (.int (0 : Int32)), .unset] [(.int (1 : Int32))]))
            refine Runs.by (fun _ hr => XS.goto X5.here hx rfl (pc0 := 149) (pc' := 153) rfl (hb hby at_149) (by decide) (by decide) hr) ?_
            show Runs p e below _ (T5.setTop (mkF m 153 #[.val (.long q0), .second, .val (.long q1), .second, .val (.long q2), .second, .val (.long q3), .second, .val (.int p4), .val (.long z1), .second, .val (.long z2), .second, .val (.long z3), .second, .val (.long z4), .second, .val (.double P), .second, .val (.int (1 : Int32)), .val (.int (0 : Int32)), .unset] [(.int (1 : Int32))]))
            refine Runs.ret X5 hx hrt hlk (Or.inl ⟨rfl, by simp, _, rfl⟩) (by rfl) (hb hby at_153) (by decide) (by decide) ?_
            rw [eq5]
            exact ⟨rfl, N5⟩
    · -- pc 62: not (lcmpW z4 (0 : Int64)) = (0 : Int32)
      refine Runs.by (fun _ hr => XS.ifYes X5.here hx rfl (pc0 := 62) (pc' := 69) rfl (hb hby at_62) rfl ((if0 _ _).trans (feq hc62).2) (by decide) (by decide) hr) ?_
      show Runs p e below _ (T5.setTop (mkF m 69 #[.val (.long q0), .second, .val (.long q1), .second, .val (.long q2), .second, .val (.long q3), .second, .val (.int p4), .val (.long z1), .second, .val (.long z2), .second, .val (.long z3), .second, .val (.long z4), .second, .val (.double P), .second, .unset, .unset, .unset] []))
      refine Runs.by (fun _ hr => XS.iconst X5.here hx rfl (hb hby at_69) hr) ?_
      show Runs p e below _ (T5.setTop (mkF m 70 #[.val (.long q0), .second, .val (.long q1), .second, .val (.long q2), .second, .val (.long q3), .second, .val (.int p4), .val (.long z1), .second, .val (.long z2), .second, .val (.long z3), .second, .val (.long z4), .second, .val (.double P), .second, .unset, .unset, .unset] [(.int (0 : Int32))]))
      refine Runs.by (fun _ hr => XS.istore X5.here hx rfl (hb hby at_70) rfl (l' := #[.val (.long q0), .second, .val (.long q1), .second, .val (.long q2), .second, .val (.long q3), .second, .val (.int p4), .val (.long z1), .second, .val (.long z2), .second, .val (.long z3), .second, .val (.long z4), .second, .val (.double P), .second, .val (.int (0 : Int32)), .unset, .unset]) rfl hr) ?_
      have gz : ¬ (z2 = 0 ∨ z4 = 0) := fun z => z.elim (fun q => hc55 (own_lcz.mpr q)) (fun q => hc62 (own_lcz.mpr q))
      show Runs p e below _ (T5.setTop (mkF m 72 #[.val (.long q0), .second, .val (.long q1), .second, .val (.long q2), .second, .val (.long q3), .second, .val (.int p4), .val (.long z1), .second, .val (.long z2), .second, .val (.long z3), .second, .val (.long z4), .second, .val (.double P), .second, .val (.int (0 : Int32)), .unset, .unset] []))
      refine Runs.by (fun _ hr => XS.lload X5.here hx rfl (hb hby at_72) rfl  hr) ?_
      show Runs p e below _ (T5.setTop (mkF m 74 #[.val (.long q0), .second, .val (.long q1), .second, .val (.long q2), .second, .val (.long q3), .second, .val (.int p4), .val (.long z1), .second, .val (.long z2), .second, .val (.long z3), .second, .val (.long z4), .second, .val (.double P), .second, .val (.int (0 : Int32)), .unset, .unset] [(.long z1)]))
      refine Runs.by (fun _ hr => XS.lconst X5.here hx rfl (hb hby at_74) hr) ?_
      show Runs p e below _ (T5.setTop (mkF m 75 #[.val (.long q0), .second, .val (.long q1), .second, .val (.long q2), .second, .val (.long q3), .second, .val (.int p4), .val (.long z1), .second, .val (.long z2), .second, .val (.long z3), .second, .val (.long z4), .second, .val (.double P), .second, .val (.int (0 : Int32)), .unset, .unset] [(.long (0 : Int64)), (.long z1)]))
      refine Runs.by (fun _ hr => XS.lcmp X5.here hx rfl (hb hby at_75) rfl hr) ?_
      show Runs p e below _ (T5.setTop (mkF m 76 #[.val (.long q0), .second, .val (.long q1), .second, .val (.long q2), .second, .val (.long q3), .second, .val (.int p4), .val (.long z1), .second, .val (.long z2), .second, .val (.long z3), .second, .val (.long z4), .second, .val (.double P), .second, .val (.int (0 : Int32)), .unset, .unset] [(.int (lcmpW z1 (0 : Int64)))]))
      by_cases hc76 : (lcmpW z1 (0 : Int64)) = (0 : Int32)
      · -- pc 76: (lcmpW z1 (0 : Int64)) = (0 : Int32)
        refine Runs.by (fun _ hr => XS.ifYes X5.here hx rfl (pc0 := 76) (pc' := 86) rfl (hb hby at_76) rfl ((if0 _ _).trans (teq hc76).1) (by decide) (by decide) hr) ?_
        show Runs p e below _ (T5.setTop (mkF m 86 #[.val (.long q0), .second, .val (.long q1), .second, .val (.long q2), .second, .val (.long q3), .second, .val (.int p4), .val (.long z1), .second, .val (.long z2), .second, .val (.long z3), .second, .val (.long z4), .second, .val (.double P), .second, .val (.int (0 : Int32)), .unset, .unset] []))
        refine Runs.by (fun _ hr => XS.iconst X5.here hx rfl (hb hby at_86) hr) ?_
        show Runs p e below _ (T5.setTop (mkF m 87 #[.val (.long q0), .second, .val (.long q1), .second, .val (.long q2), .second, .val (.long q3), .second, .val (.int p4), .val (.long z1), .second, .val (.long z2), .second, .val (.long z3), .second, .val (.long z4), .second, .val (.double P), .second, .val (.int (0 : Int32)), .unset, .unset] [(.int (1 : Int32))]))
        refine Runs.by (fun _ hr => XS.goto X5.here hx rfl (pc0 := 87) (pc' := 91) rfl (hb hby at_87) (by decide) (by decide) hr) ?_
        show Runs p e below _ (T5.setTop (mkF m 91 #[.val (.long q0), .second, .val (.long q1), .second, .val (.long q2), .second, .val (.long q3), .second, .val (.int p4), .val (.long z1), .second, .val (.long z2), .second, .val (.long z3), .second, .val (.long z4), .second, .val (.double P), .second, .val (.int (0 : Int32)), .unset, .unset] [(.int (1 : Int32))]))
        refine Runs.by (fun _ hr => XS.istore X5.here hx rfl (hb hby at_91) rfl (l' := #[.val (.long q0), .second, .val (.long q1), .second, .val (.long q2), .second, .val (.long q3), .second, .val (.int p4), .val (.long z1), .second, .val (.long z2), .second, .val (.long z3), .second, .val (.long z4), .second, .val (.double P), .second, .val (.int (0 : Int32)), .val (.int (1 : Int32)), .unset]) rfl hr) ?_
        have bz : z1 = 0 ∨ z3 = 0 := Or.inl (own_lcz.mp hc76)
        show Runs p e below _ (T5.setTop (mkF m 93 #[.val (.long q0), .second, .val (.long q1), .second, .val (.long q2), .second, .val (.long q3), .second, .val (.int p4), .val (.long z1), .second, .val (.long z2), .second, .val (.long z3), .second, .val (.long z4), .second, .val (.double P), .second, .val (.int (0 : Int32)), .val (.int (1 : Int32)), .unset] []))
        refine Runs.by (fun _ hr => X5.ldc2J hx hown (mvT hZ (hw _ (List.mem_of_getElem? (i := 24) rfl))) (g := (mkF m 93 #[.val (.long q0), .second, .val (.long q1), .second, .val (.long q2), .second, .val (.long q3), .second, .val (.int p4), .val (.long z1), .second, .val (.long z2), .second, .val (.long z3), .second, .val (.long z4), .second, .val (.double P), .second, .val (.int (0 : Int32)), .val (.int (1 : Int32)), .unset] [])) rfl (hb hby at_93) hr) ?_
        show Runs p e below _ (T5.setTop (mkF m 96 #[.val (.long q0), .second, .val (.long q1), .second, .val (.long q2), .second, .val (.long q3), .second, .val (.int p4), .val (.long z1), .second, .val (.long z2), .second, .val (.long z3), .second, .val (.long z4), .second, .val (.double P), .second, .val (.int (0 : Int32)), .val (.int (1 : Int32)), .unset] [(.long (2 : Int64))]))
        refine Runs.by (fun _ hr => XS.lload X5.here hx rfl (hb hby at_96) rfl  hr) ?_
        show Runs p e below _ (T5.setTop (mkF m 98 #[.val (.long q0), .second, .val (.long q1), .second, .val (.long q2), .second, .val (.long q3), .second, .val (.int p4), .val (.long z1), .second, .val (.long z2), .second, .val (.long z3), .second, .val (.long z4), .second, .val (.double P), .second, .val (.int (0 : Int32)), .val (.int (1 : Int32)), .unset] [(.long z2), (.long (2 : Int64))]))
        refine Runs.by (fun _ hr => XS.lmul X5.here hx rfl (hb hby at_98) rfl hr) ?_
        show Runs p e below _ (T5.setTop (mkF m 99 #[.val (.long q0), .second, .val (.long q1), .second, .val (.long q2), .second, .val (.long q3), .second, .val (.int p4), .val (.long z1), .second, .val (.long z2), .second, .val (.long z3), .second, .val (.long z4), .second, .val (.double P), .second, .val (.int (0 : Int32)), .val (.int (1 : Int32)), .unset] [(.long ((2 : Int64) * z2))]))
        refine Runs.by (fun _ hr => XS.lload X5.here hx rfl (hb hby at_99) rfl  hr) ?_
        show Runs p e below _ (T5.setTop (mkF m 101 #[.val (.long q0), .second, .val (.long q1), .second, .val (.long q2), .second, .val (.long q3), .second, .val (.int p4), .val (.long z1), .second, .val (.long z2), .second, .val (.long z3), .second, .val (.long z4), .second, .val (.double P), .second, .val (.int (0 : Int32)), .val (.int (1 : Int32)), .unset] [(.long z1), (.long ((2 : Int64) * z2))]))
        refine Runs.by (fun _ hr => XS.ladd X5.here hx rfl (hb hby at_101) rfl hr) ?_
        show Runs p e below _ (T5.setTop (mkF m 102 #[.val (.long q0), .second, .val (.long q1), .second, .val (.long q2), .second, .val (.long q3), .second, .val (.int p4), .val (.long z1), .second, .val (.long z2), .second, .val (.long z3), .second, .val (.long z4), .second, .val (.double P), .second, .val (.int (0 : Int32)), .val (.int (1 : Int32)), .unset] [(.long (((2 : Int64) * z2) + z1))]))
        refine Runs.by (fun _ hr => X5.ldc2J hx hown (mvT hZ (hw _ (List.mem_of_getElem? (i := 25) rfl))) (g := (mkF m 102 #[.val (.long q0), .second, .val (.long q1), .second, .val (.long q2), .second, .val (.long q3), .second, .val (.int p4), .val (.long z1), .second, .val (.long z2), .second, .val (.long z3), .second, .val (.long z4), .second, .val (.double P), .second, .val (.int (0 : Int32)), .val (.int (1 : Int32)), .unset] [(.long (((2 : Int64) * z2) + z1))])) rfl (hb hby at_102) hr) ?_
        show Runs p e below _ (T5.setTop (mkF m 105 #[.val (.long q0), .second, .val (.long q1), .second, .val (.long q2), .second, .val (.long q3), .second, .val (.int p4), .val (.long z1), .second, .val (.long z2), .second, .val (.long z3), .second, .val (.long z4), .second, .val (.double P), .second, .val (.int (0 : Int32)), .val (.int (1 : Int32)), .unset] [(.long (5 : Int64)), (.long (((2 : Int64) * z2) + z1))]))
        refine Runs.by (fun _ hr => XS.lcmp X5.here hx rfl (hb hby at_105) rfl hr) ?_
        show Runs p e below _ (T5.setTop (mkF m 106 #[.val (.long q0), .second, .val (.long q1), .second, .val (.long q2), .second, .val (.long q3), .second, .val (.int p4), .val (.long z1), .second, .val (.long z2), .second, .val (.long z3), .second, .val (.long z4), .second, .val (.double P), .second, .val (.int (0 : Int32)), .val (.int (1 : Int32)), .unset] [(.int (lcmpW (((2 : Int64) * z2) + z1) (5 : Int64)))]))
        by_cases hc106 : (lcmpW (((2 : Int64) * z2) + z1) (5 : Int64)) < (0 : Int32)
        · -- pc 106: (lcmpW (((2 : Int64) * z2) + z1) (5 : Int64)) < (0 : Int32)
          refine Runs.by (fun _ hr => XS.ifYes X5.here hx rfl (pc0 := 106) (pc' := 119) rfl (hb hby at_106) rfl ((if0 _ _).trans (tlt hc106).1) (by decide) (by decide) hr) ?_
          show Runs p e below _ (T5.setTop (mkF m 119 #[.val (.long q0), .second, .val (.long q1), .second, .val (.long q2), .second, .val (.long q3), .second, .val (.int p4), .val (.long z1), .second, .val (.long z2), .second, .val (.long z3), .second, .val (.long z4), .second, .val (.double P), .second, .val (.int (0 : Int32)), .val (.int (1 : Int32)), .unset] []))
          refine Runs.by (fun _ hr => XS.dload X5.here hx rfl (hb hby at_119) rfl  hr) ?_
          show Runs p e below _ (T5.setTop (mkF m 121 #[.val (.long q0), .second, .val (.long q1), .second, .val (.long q2), .second, .val (.long q3), .second, .val (.int p4), .val (.long z1), .second, .val (.long z2), .second, .val (.long z3), .second, .val (.long z4), .second, .val (.double P), .second, .val (.int (0 : Int32)), .val (.int (1 : Int32)), .unset] [(.double P)]))
          refine Runs.by (fun t hr => X5.ldc2DoubleC hx hown (mvT hZ (hw _ (List.mem_of_getElem? (i := 33) rfl))) (g := (mkF m 121 #[.val (.long q0), .second, .val (.long q1), .second, .val (.long q2), .second, .val (.long q3), .second, .val (.int p4), .val (.long z1), .second, .val (.long z2), .second, .val (.long z3), .second, .val (.long z4), .second, .val (.double P), .second, .val (.int (0 : Int32)), .val (.int (1 : Int32)), .unset] [(.double P)])) rfl (hb hby at_121) t hr) ?_
          show Runs p e below _ (T5.setTop (mkF m 124 #[.val (.long q0), .second, .val (.long q1), .second, .val (.long q2), .second, .val (.long q3), .second, .val (.int p4), .val (.long z1), .second, .val (.long z2), .second, .val (.long z3), .second, .val (.long z4), .second, .val (.double P), .second, .val (.int (0 : Int32)), .val (.int (1 : Int32)), .unset] [(.double (4600877379321698714 : UInt64)), (.double P)]))
          refine Runs.by (fun _ hr => XS.dcmpS X5.here hx rfl (hb hby at_124) rfl rfl hr) ?_
          show Runs p e below _ (T5.setTop (mkF m 125 #[.val (.long q0), .second, .val (.long q1), .second, .val (.long q2), .second, .val (.long q3), .second, .val (.int p4), .val (.long z1), .second, .val (.long z2), .second, .val (.long z3), .second, .val (.long z4), .second, .val (.double P), .second, .val (.int (0 : Int32)), .val (.int (1 : Int32)), .unset] [(.int (cmpValue (FP.dcmp P (4600877379321698714 : UInt64)) .l))]))
          have hc125 : (cmpValue (FP.dcmp P (4600877379321698714 : UInt64)) .l) = (0 : Int32) := ((own_cz_eq nP own_nn04 _).mpr (LA (Or.inl (own_lt5.mp hc106))))
          refine Runs.by (fun _ hr => XS.ifNo X5.here hx rfl (hb hby at_125) rfl ((if0 _ _).trans (teq hc125).2) hr) ?_
          show Runs p e below _ (T5.setTop (mkF m 128 #[.val (.long q0), .second, .val (.long q1), .second, .val (.long q2), .second, .val (.long q3), .second, .val (.int p4), .val (.long z1), .second, .val (.long z2), .second, .val (.long z3), .second, .val (.long z4), .second, .val (.double P), .second, .val (.int (0 : Int32)), .val (.int (1 : Int32)), .unset] []))
          refine Runs.by (fun _ hr => XS.iconst X5.here hx rfl (hb hby at_128) hr) ?_
          show Runs p e below _ (T5.setTop (mkF m 129 #[.val (.long q0), .second, .val (.long q1), .second, .val (.long q2), .second, .val (.long q3), .second, .val (.int p4), .val (.long z1), .second, .val (.long z2), .second, .val (.long z3), .second, .val (.long z4), .second, .val (.double P), .second, .val (.int (0 : Int32)), .val (.int (1 : Int32)), .unset] [(.int (1 : Int32))]))
          refine Runs.by (fun _ hr => XS.goto X5.here hx rfl (pc0 := 129) (pc' := 133) rfl (hb hby at_129) (by decide) (by decide) hr) ?_
          show Runs p e below _ (T5.setTop (mkF m 133 #[.val (.long q0), .second, .val (.long q1), .second, .val (.long q2), .second, .val (.long q3), .second, .val (.int p4), .val (.long z1), .second, .val (.long z2), .second, .val (.long z3), .second, .val (.long z4), .second, .val (.double P), .second, .val (.int (0 : Int32)), .val (.int (1 : Int32)), .unset] [(.int (1 : Int32))]))
          refine Runs.ret X5 hx hrt hlk (Or.inl ⟨rfl, by simp, _, rfl⟩) (by rfl) (hb hby at_133) (by decide) (by decide) ?_
          rw [eq5]
          exact ⟨rfl, N5⟩
        · -- pc 106: not (lcmpW (((2 : Int64) * z2) + z1) (5 : Int64)) < (0 : Int32)
          refine Runs.by (fun _ hr => XS.ifNo X5.here hx rfl (hb hby at_106) rfl ((if0 _ _).trans (flt hc106).1) hr) ?_
          show Runs p e below _ (T5.setTop (mkF m 109 #[.val (.long q0), .second, .val (.long q1), .second, .val (.long q2), .second, .val (.long q3), .second, .val (.int p4), .val (.long z1), .second, .val (.long z2), .second, .val (.long z3), .second, .val (.long z4), .second, .val (.double P), .second, .val (.int (0 : Int32)), .val (.int (1 : Int32)), .unset] []))
          refine Runs.by (fun _ hr => XS.iload X5.here hx rfl (hb hby at_109) rfl  hr) ?_
          show Runs p e below _ (T5.setTop (mkF m 111 #[.val (.long q0), .second, .val (.long q1), .second, .val (.long q2), .second, .val (.long q3), .second, .val (.int p4), .val (.long z1), .second, .val (.long z2), .second, .val (.long z3), .second, .val (.long z4), .second, .val (.double P), .second, .val (.int (0 : Int32)), .val (.int (1 : Int32)), .unset] [(.int (0 : Int32))]))
          have hc111 : (0 : Int32) = (0 : Int32) := (by decide)
          refine Runs.by (fun _ hr => XS.ifYes X5.here hx rfl (pc0 := 111) (pc' := 134) rfl (hb hby at_111) rfl ((if0 _ _).trans (teq hc111).1) (by decide) (by decide) hr) ?_
          show Runs p e below _ (T5.setTop (mkF m 134 #[.val (.long q0), .second, .val (.long q1), .second, .val (.long q2), .second, .val (.long q3), .second, .val (.int p4), .val (.long z1), .second, .val (.long z2), .second, .val (.long z3), .second, .val (.long z4), .second, .val (.double P), .second, .val (.int (0 : Int32)), .val (.int (1 : Int32)), .unset] []))
          refine Runs.by (fun _ hr => XS.iload X5.here hx rfl (hb hby at_134) rfl  hr) ?_
          show Runs p e below _ (T5.setTop (mkF m 136 #[.val (.long q0), .second, .val (.long q1), .second, .val (.long q2), .second, .val (.long q3), .second, .val (.int p4), .val (.long z1), .second, .val (.long z2), .second, .val (.long z3), .second, .val (.long z4), .second, .val (.double P), .second, .val (.int (0 : Int32)), .val (.int (1 : Int32)), .unset] [(.int (0 : Int32))]))
          have hc136 : (0 : Int32) = (0 : Int32) := (by decide)
          refine Runs.by (fun _ hr => XS.ifYes X5.here hx rfl (pc0 := 136) (pc' := 154) rfl (hb hby at_136) rfl ((if0 _ _).trans (teq hc136).1) (by decide) (by decide) hr) ?_
          show Runs p e below _ (T5.setTop (mkF m 154 #[.val (.long q0), .second, .val (.long q1), .second, .val (.long q2), .second, .val (.long q3), .second, .val (.int p4), .val (.long z1), .second, .val (.long z2), .second, .val (.long z3), .second, .val (.long z4), .second, .val (.double P), .second, .val (.int (0 : Int32)), .val (.int (1 : Int32)), .unset] []))
          refine Runs.by (fun _ hr => XS.iload X5.here hx rfl (hb hby at_154) rfl  hr) ?_
          show Runs p e below _ (T5.setTop (mkF m 156 #[.val (.long q0), .second, .val (.long q1), .second, .val (.long q2), .second, .val (.long q3), .second, .val (.int p4), .val (.long z1), .second, .val (.long z2), .second, .val (.long z3), .second, .val (.long z4), .second, .val (.double P), .second, .val (.int (0 : Int32)), .val (.int (1 : Int32)), .unset] [(.int (1 : Int32))]))
          have hc156 : ¬ ((1 : Int32) = (0 : Int32)) := (by decide)
          refine Runs.by (fun _ hr => XS.ifNo X5.here hx rfl (hb hby at_156) rfl ((if0 _ _).trans (feq hc156).1) hr) ?_
          show Runs p e below _ (T5.setTop (mkF m 159 #[.val (.long q0), .second, .val (.long q1), .second, .val (.long q2), .second, .val (.long q3), .second, .val (.int p4), .val (.long z1), .second, .val (.long z2), .second, .val (.long z3), .second, .val (.long z4), .second, .val (.double P), .second, .val (.int (0 : Int32)), .val (.int (1 : Int32)), .unset] []))
          refine Runs.by (fun _ hr => XS.dload X5.here hx rfl (hb hby at_159) rfl  hr) ?_
          show Runs p e below _ (T5.setTop (mkF m 161 #[.val (.long q0), .second, .val (.long q1), .second, .val (.long q2), .second, .val (.long q3), .second, .val (.int p4), .val (.long z1), .second, .val (.long z2), .second, .val (.long z3), .second, .val (.long z4), .second, .val (.double P), .second, .val (.int (0 : Int32)), .val (.int (1 : Int32)), .unset] [(.double P)]))
          refine Runs.by (fun t hr => X5.ldc2DoubleC hx hown (mvT hZ (hw _ (List.mem_of_getElem? (i := 26) rfl))) (g := (mkF m 161 #[.val (.long q0), .second, .val (.long q1), .second, .val (.long q2), .second, .val (.long q3), .second, .val (.int p4), .val (.long z1), .second, .val (.long z2), .second, .val (.long z3), .second, .val (.long z4), .second, .val (.double P), .second, .val (.int (0 : Int32)), .val (.int (1 : Int32)), .unset] [(.double P)])) rfl (hb hby at_161) t hr) ?_
          show Runs p e below _ (T5.setTop (mkF m 164 #[.val (.long q0), .second, .val (.long q1), .second, .val (.long q2), .second, .val (.long q3), .second, .val (.int p4), .val (.long z1), .second, .val (.long z2), .second, .val (.long z3), .second, .val (.long z4), .second, .val (.double P), .second, .val (.int (0 : Int32)), .val (.int (1 : Int32)), .unset] [(.double (4576918229304087675 : UInt64)), (.double P)]))
          refine Runs.by (fun _ hr => XS.dcmpS X5.here hx rfl (hb hby at_164) rfl rfl hr) ?_
          show Runs p e below _ (T5.setTop (mkF m 165 #[.val (.long q0), .second, .val (.long q1), .second, .val (.long q2), .second, .val (.long q3), .second, .val (.int p4), .val (.long z1), .second, .val (.long z2), .second, .val (.long z3), .second, .val (.long z4), .second, .val (.double P), .second, .val (.int (0 : Int32)), .val (.int (1 : Int32)), .unset] [(.int (cmpValue (FP.dcmp P (4576918229304087675 : UInt64)) .l))]))
          have hc165 : (cmpValue (FP.dcmp P (4576918229304087675 : UInt64)) .l) = (0 : Int32) := ((own_cz_eq nP own_nn01 _).mpr (LC (fun q => hc106 (own_lt5.mpr q)) gz bz))
          refine Runs.by (fun _ hr => XS.ifNo X5.here hx rfl (hb hby at_165) rfl ((if0 _ _).trans (teq hc165).2) hr) ?_
          show Runs p e below _ (T5.setTop (mkF m 168 #[.val (.long q0), .second, .val (.long q1), .second, .val (.long q2), .second, .val (.long q3), .second, .val (.int p4), .val (.long z1), .second, .val (.long z2), .second, .val (.long z3), .second, .val (.long z4), .second, .val (.double P), .second, .val (.int (0 : Int32)), .val (.int (1 : Int32)), .unset] []))
          refine Runs.by (fun _ hr => XS.iconst X5.here hx rfl (hb hby at_168) hr) ?_
          show Runs p e below _ (T5.setTop (mkF m 169 #[.val (.long q0), .second, .val (.long q1), .second, .val (.long q2), .second, .val (.long q3), .second, .val (.int p4), .val (.long z1), .second, .val (.long z2), .second, .val (.long z3), .second, .val (.long z4), .second, .val (.double P), .second, .val (.int (0 : Int32)), .val (.int (1 : Int32)), .unset] [(.int (1 : Int32))]))
          refine Runs.by (fun _ hr => XS.goto X5.here hx rfl (pc0 := 169) (pc' := 173) rfl (hb hby at_169) (by decide) (by decide) hr) ?_
          show Runs p e below _ (T5.setTop (mkF m 173 #[.val (.long q0), .second, .val (.long q1), .second, .val (.long q2), .second, .val (.long q3), .second, .val (.int p4), .val (.long z1), .second, .val (.long z2), .second, .val (.long z3), .second, .val (.long z4), .second, .val (.double P), .second, .val (.int (0 : Int32)), .val (.int (1 : Int32)), .unset] [(.int (1 : Int32))]))
          refine Runs.ret X5 hx hrt hlk (Or.inl ⟨rfl, by simp, _, rfl⟩) (by rfl) (hb hby at_173) (by decide) (by decide) ?_
          rw [eq5]
          exact ⟨rfl, N5⟩
      · -- pc 76: not (lcmpW z1 (0 : Int64)) = (0 : Int32)
        refine Runs.by (fun _ hr => XS.ifNo X5.here hx rfl (hb hby at_76) rfl ((if0 _ _).trans (feq hc76).1) hr) ?_
        show Runs p e below _ (T5.setTop (mkF m 79 #[.val (.long q0), .second, .val (.long q1), .second, .val (.long q2), .second, .val (.long q3), .second, .val (.int p4), .val (.long z1), .second, .val (.long z2), .second, .val (.long z3), .second, .val (.long z4), .second, .val (.double P), .second, .val (.int (0 : Int32)), .unset, .unset] []))
        refine Runs.by (fun _ hr => XS.lload X5.here hx rfl (hb hby at_79) rfl  hr) ?_
        show Runs p e below _ (T5.setTop (mkF m 81 #[.val (.long q0), .second, .val (.long q1), .second, .val (.long q2), .second, .val (.long q3), .second, .val (.int p4), .val (.long z1), .second, .val (.long z2), .second, .val (.long z3), .second, .val (.long z4), .second, .val (.double P), .second, .val (.int (0 : Int32)), .unset, .unset] [(.long z3)]))
        refine Runs.by (fun _ hr => XS.lconst X5.here hx rfl (hb hby at_81) hr) ?_
        show Runs p e below _ (T5.setTop (mkF m 82 #[.val (.long q0), .second, .val (.long q1), .second, .val (.long q2), .second, .val (.long q3), .second, .val (.int p4), .val (.long z1), .second, .val (.long z2), .second, .val (.long z3), .second, .val (.long z4), .second, .val (.double P), .second, .val (.int (0 : Int32)), .unset, .unset] [(.long (0 : Int64)), (.long z3)]))
        refine Runs.by (fun _ hr => XS.lcmp X5.here hx rfl (hb hby at_82) rfl hr) ?_
        show Runs p e below _ (T5.setTop (mkF m 83 #[.val (.long q0), .second, .val (.long q1), .second, .val (.long q2), .second, .val (.long q3), .second, .val (.int p4), .val (.long z1), .second, .val (.long z2), .second, .val (.long z3), .second, .val (.long z4), .second, .val (.double P), .second, .val (.int (0 : Int32)), .unset, .unset] [(.int (lcmpW z3 (0 : Int64)))]))
        by_cases hc83 : (lcmpW z3 (0 : Int64)) = (0 : Int32)
        · -- pc 83: (lcmpW z3 (0 : Int64)) = (0 : Int32)
          refine Runs.by (fun _ hr => XS.ifNo X5.here hx rfl (hb hby at_83) rfl ((if0 _ _).trans (teq hc83).2) hr) ?_
          show Runs p e below _ (T5.setTop (mkF m 86 #[.val (.long q0), .second, .val (.long q1), .second, .val (.long q2), .second, .val (.long q3), .second, .val (.int p4), .val (.long z1), .second, .val (.long z2), .second, .val (.long z3), .second, .val (.long z4), .second, .val (.double P), .second, .val (.int (0 : Int32)), .unset, .unset] []))
          refine Runs.by (fun _ hr => XS.iconst X5.here hx rfl (hb hby at_86) hr) ?_
          show Runs p e below _ (T5.setTop (mkF m 87 #[.val (.long q0), .second, .val (.long q1), .second, .val (.long q2), .second, .val (.long q3), .second, .val (.int p4), .val (.long z1), .second, .val (.long z2), .second, .val (.long z3), .second, .val (.long z4), .second, .val (.double P), .second, .val (.int (0 : Int32)), .unset, .unset] [(.int (1 : Int32))]))
          refine Runs.by (fun _ hr => XS.goto X5.here hx rfl (pc0 := 87) (pc' := 91) rfl (hb hby at_87) (by decide) (by decide) hr) ?_
          show Runs p e below _ (T5.setTop (mkF m 91 #[.val (.long q0), .second, .val (.long q1), .second, .val (.long q2), .second, .val (.long q3), .second, .val (.int p4), .val (.long z1), .second, .val (.long z2), .second, .val (.long z3), .second, .val (.long z4), .second, .val (.double P), .second, .val (.int (0 : Int32)), .unset, .unset] [(.int (1 : Int32))]))
          refine Runs.by (fun _ hr => XS.istore X5.here hx rfl (hb hby at_91) rfl (l' := #[.val (.long q0), .second, .val (.long q1), .second, .val (.long q2), .second, .val (.long q3), .second, .val (.int p4), .val (.long z1), .second, .val (.long z2), .second, .val (.long z3), .second, .val (.long z4), .second, .val (.double P), .second, .val (.int (0 : Int32)), .val (.int (1 : Int32)), .unset]) rfl hr) ?_
          have bz : z1 = 0 ∨ z3 = 0 := Or.inr (own_lcz.mp hc83)
          show Runs p e below _ (T5.setTop (mkF m 93 #[.val (.long q0), .second, .val (.long q1), .second, .val (.long q2), .second, .val (.long q3), .second, .val (.int p4), .val (.long z1), .second, .val (.long z2), .second, .val (.long z3), .second, .val (.long z4), .second, .val (.double P), .second, .val (.int (0 : Int32)), .val (.int (1 : Int32)), .unset] []))
          refine Runs.by (fun _ hr => X5.ldc2J hx hown (mvT hZ (hw _ (List.mem_of_getElem? (i := 24) rfl))) (g := (mkF m 93 #[.val (.long q0), .second, .val (.long q1), .second, .val (.long q2), .second, .val (.long q3), .second, .val (.int p4), .val (.long z1), .second, .val (.long z2), .second, .val (.long z3), .second, .val (.long z4), .second, .val (.double P), .second, .val (.int (0 : Int32)), .val (.int (1 : Int32)), .unset] [])) rfl (hb hby at_93) hr) ?_
          show Runs p e below _ (T5.setTop (mkF m 96 #[.val (.long q0), .second, .val (.long q1), .second, .val (.long q2), .second, .val (.long q3), .second, .val (.int p4), .val (.long z1), .second, .val (.long z2), .second, .val (.long z3), .second, .val (.long z4), .second, .val (.double P), .second, .val (.int (0 : Int32)), .val (.int (1 : Int32)), .unset] [(.long (2 : Int64))]))
          refine Runs.by (fun _ hr => XS.lload X5.here hx rfl (hb hby at_96) rfl  hr) ?_
          show Runs p e below _ (T5.setTop (mkF m 98 #[.val (.long q0), .second, .val (.long q1), .second, .val (.long q2), .second, .val (.long q3), .second, .val (.int p4), .val (.long z1), .second, .val (.long z2), .second, .val (.long z3), .second, .val (.long z4), .second, .val (.double P), .second, .val (.int (0 : Int32)), .val (.int (1 : Int32)), .unset] [(.long z2), (.long (2 : Int64))]))
          refine Runs.by (fun _ hr => XS.lmul X5.here hx rfl (hb hby at_98) rfl hr) ?_
          show Runs p e below _ (T5.setTop (mkF m 99 #[.val (.long q0), .second, .val (.long q1), .second, .val (.long q2), .second, .val (.long q3), .second, .val (.int p4), .val (.long z1), .second, .val (.long z2), .second, .val (.long z3), .second, .val (.long z4), .second, .val (.double P), .second, .val (.int (0 : Int32)), .val (.int (1 : Int32)), .unset] [(.long ((2 : Int64) * z2))]))
          refine Runs.by (fun _ hr => XS.lload X5.here hx rfl (hb hby at_99) rfl  hr) ?_
          show Runs p e below _ (T5.setTop (mkF m 101 #[.val (.long q0), .second, .val (.long q1), .second, .val (.long q2), .second, .val (.long q3), .second, .val (.int p4), .val (.long z1), .second, .val (.long z2), .second, .val (.long z3), .second, .val (.long z4), .second, .val (.double P), .second, .val (.int (0 : Int32)), .val (.int (1 : Int32)), .unset] [(.long z1), (.long ((2 : Int64) * z2))]))
          refine Runs.by (fun _ hr => XS.ladd X5.here hx rfl (hb hby at_101) rfl hr) ?_
          show Runs p e below _ (T5.setTop (mkF m 102 #[.val (.long q0), .second, .val (.long q1), .second, .val (.long q2), .second, .val (.long q3), .second, .val (.int p4), .val (.long z1), .second, .val (.long z2), .second, .val (.long z3), .second, .val (.long z4), .second, .val (.double P), .second, .val (.int (0 : Int32)), .val (.int (1 : Int32)), .unset] [(.long (((2 : Int64) * z2) + z1))]))
          refine Runs.by (fun _ hr => X5.ldc2J hx hown (mvT hZ (hw _ (List.mem_of_getElem? (i := 25) rfl))) (g := (mkF m 102 #[.val (.long q0), .second, .val (.long q1), .second, .val (.long q2), .second, .val (.long q3), .second, .val (.int p4), .val (.long z1), .second, .val (.long z2), .second, .val (.long z3), .second, .val (.long z4), .second, .val (.double P), .second, .val (.int (0 : Int32)), .val (.int (1 : Int32)), .unset] [(.long (((2 : Int64) * z2) + z1))])) rfl (hb hby at_102) hr) ?_
          show Runs p e below _ (T5.setTop (mkF m 105 #[.val (.long q0), .second, .val (.long q1), .second, .val (.long q2), .second, .val (.long q3), .second, .val (.int p4), .val (.long z1), .second, .val (.long z2), .second, .val (.long z3), .second, .val (.long z4), .second, .val (.double P), .second, .val (.int (0 : Int32)), .val (.int (1 : Int32)), .unset] [(.long (5 : Int64)), (.long (((2 : Int64) * z2) + z1))]))
          refine Runs.by (fun _ hr => XS.lcmp X5.here hx rfl (hb hby at_105) rfl hr) ?_
          show Runs p e below _ (T5.setTop (mkF m 106 #[.val (.long q0), .second, .val (.long q1), .second, .val (.long q2), .second, .val (.long q3), .second, .val (.int p4), .val (.long z1), .second, .val (.long z2), .second, .val (.long z3), .second, .val (.long z4), .second, .val (.double P), .second, .val (.int (0 : Int32)), .val (.int (1 : Int32)), .unset] [(.int (lcmpW (((2 : Int64) * z2) + z1) (5 : Int64)))]))
          by_cases hc106 : (lcmpW (((2 : Int64) * z2) + z1) (5 : Int64)) < (0 : Int32)
          · -- pc 106: (lcmpW (((2 : Int64) * z2) + z1) (5 : Int64)) < (0 : Int32)
            refine Runs.by (fun _ hr => XS.ifYes X5.here hx rfl (pc0 := 106) (pc' := 119) rfl (hb hby at_106) rfl ((if0 _ _).trans (tlt hc106).1) (by decide) (by decide) hr) ?_
            show Runs p e below _ (T5.setTop (mkF m 119 #[.val (.long q0), .second, .val (.long q1), .second, .val (.long q2), .second, .val (.long q3), .second, .val (.int p4), .val (.long z1), .second, .val (.long z2), .second, .val (.long z3), .second, .val (.long z4), .second, .val (.double P), .second, .val (.int (0 : Int32)), .val (.int (1 : Int32)), .unset] []))
            refine Runs.by (fun _ hr => XS.dload X5.here hx rfl (hb hby at_119) rfl  hr) ?_
            show Runs p e below _ (T5.setTop (mkF m 121 #[.val (.long q0), .second, .val (.long q1), .second, .val (.long q2), .second, .val (.long q3), .second, .val (.int p4), .val (.long z1), .second, .val (.long z2), .second, .val (.long z3), .second, .val (.long z4), .second, .val (.double P), .second, .val (.int (0 : Int32)), .val (.int (1 : Int32)), .unset] [(.double P)]))
            refine Runs.by (fun t hr => X5.ldc2DoubleC hx hown (mvT hZ (hw _ (List.mem_of_getElem? (i := 33) rfl))) (g := (mkF m 121 #[.val (.long q0), .second, .val (.long q1), .second, .val (.long q2), .second, .val (.long q3), .second, .val (.int p4), .val (.long z1), .second, .val (.long z2), .second, .val (.long z3), .second, .val (.long z4), .second, .val (.double P), .second, .val (.int (0 : Int32)), .val (.int (1 : Int32)), .unset] [(.double P)])) rfl (hb hby at_121) t hr) ?_
            show Runs p e below _ (T5.setTop (mkF m 124 #[.val (.long q0), .second, .val (.long q1), .second, .val (.long q2), .second, .val (.long q3), .second, .val (.int p4), .val (.long z1), .second, .val (.long z2), .second, .val (.long z3), .second, .val (.long z4), .second, .val (.double P), .second, .val (.int (0 : Int32)), .val (.int (1 : Int32)), .unset] [(.double (4600877379321698714 : UInt64)), (.double P)]))
            refine Runs.by (fun _ hr => XS.dcmpS X5.here hx rfl (hb hby at_124) rfl rfl hr) ?_
            show Runs p e below _ (T5.setTop (mkF m 125 #[.val (.long q0), .second, .val (.long q1), .second, .val (.long q2), .second, .val (.long q3), .second, .val (.int p4), .val (.long z1), .second, .val (.long z2), .second, .val (.long z3), .second, .val (.long z4), .second, .val (.double P), .second, .val (.int (0 : Int32)), .val (.int (1 : Int32)), .unset] [(.int (cmpValue (FP.dcmp P (4600877379321698714 : UInt64)) .l))]))
            have hc125 : (cmpValue (FP.dcmp P (4600877379321698714 : UInt64)) .l) = (0 : Int32) := ((own_cz_eq nP own_nn04 _).mpr (LA (Or.inl (own_lt5.mp hc106))))
            refine Runs.by (fun _ hr => XS.ifNo X5.here hx rfl (hb hby at_125) rfl ((if0 _ _).trans (teq hc125).2) hr) ?_
            show Runs p e below _ (T5.setTop (mkF m 128 #[.val (.long q0), .second, .val (.long q1), .second, .val (.long q2), .second, .val (.long q3), .second, .val (.int p4), .val (.long z1), .second, .val (.long z2), .second, .val (.long z3), .second, .val (.long z4), .second, .val (.double P), .second, .val (.int (0 : Int32)), .val (.int (1 : Int32)), .unset] []))
            refine Runs.by (fun _ hr => XS.iconst X5.here hx rfl (hb hby at_128) hr) ?_
            show Runs p e below _ (T5.setTop (mkF m 129 #[.val (.long q0), .second, .val (.long q1), .second, .val (.long q2), .second, .val (.long q3), .second, .val (.int p4), .val (.long z1), .second, .val (.long z2), .second, .val (.long z3), .second, .val (.long z4), .second, .val (.double P), .second, .val (.int (0 : Int32)), .val (.int (1 : Int32)), .unset] [(.int (1 : Int32))]))
            refine Runs.by (fun _ hr => XS.goto X5.here hx rfl (pc0 := 129) (pc' := 133) rfl (hb hby at_129) (by decide) (by decide) hr) ?_
            show Runs p e below _ (T5.setTop (mkF m 133 #[.val (.long q0), .second, .val (.long q1), .second, .val (.long q2), .second, .val (.long q3), .second, .val (.int p4), .val (.long z1), .second, .val (.long z2), .second, .val (.long z3), .second, .val (.long z4), .second, .val (.double P), .second, .val (.int (0 : Int32)), .val (.int (1 : Int32)), .unset] [(.int (1 : Int32))]))
            refine Runs.ret X5 hx hrt hlk (Or.inl ⟨rfl, by simp, _, rfl⟩) (by rfl) (hb hby at_133) (by decide) (by decide) ?_
            rw [eq5]
            exact ⟨rfl, N5⟩
          · -- pc 106: not (lcmpW (((2 : Int64) * z2) + z1) (5 : Int64)) < (0 : Int32)
            refine Runs.by (fun _ hr => XS.ifNo X5.here hx rfl (hb hby at_106) rfl ((if0 _ _).trans (flt hc106).1) hr) ?_
            show Runs p e below _ (T5.setTop (mkF m 109 #[.val (.long q0), .second, .val (.long q1), .second, .val (.long q2), .second, .val (.long q3), .second, .val (.int p4), .val (.long z1), .second, .val (.long z2), .second, .val (.long z3), .second, .val (.long z4), .second, .val (.double P), .second, .val (.int (0 : Int32)), .val (.int (1 : Int32)), .unset] []))
            refine Runs.by (fun _ hr => XS.iload X5.here hx rfl (hb hby at_109) rfl  hr) ?_
            show Runs p e below _ (T5.setTop (mkF m 111 #[.val (.long q0), .second, .val (.long q1), .second, .val (.long q2), .second, .val (.long q3), .second, .val (.int p4), .val (.long z1), .second, .val (.long z2), .second, .val (.long z3), .second, .val (.long z4), .second, .val (.double P), .second, .val (.int (0 : Int32)), .val (.int (1 : Int32)), .unset] [(.int (0 : Int32))]))
            have hc111 : (0 : Int32) = (0 : Int32) := (by decide)
            refine Runs.by (fun _ hr => XS.ifYes X5.here hx rfl (pc0 := 111) (pc' := 134) rfl (hb hby at_111) rfl ((if0 _ _).trans (teq hc111).1) (by decide) (by decide) hr) ?_
            show Runs p e below _ (T5.setTop (mkF m 134 #[.val (.long q0), .second, .val (.long q1), .second, .val (.long q2), .second, .val (.long q3), .second, .val (.int p4), .val (.long z1), .second, .val (.long z2), .second, .val (.long z3), .second, .val (.long z4), .second, .val (.double P), .second, .val (.int (0 : Int32)), .val (.int (1 : Int32)), .unset] []))
            refine Runs.by (fun _ hr => XS.iload X5.here hx rfl (hb hby at_134) rfl  hr) ?_
            show Runs p e below _ (T5.setTop (mkF m 136 #[.val (.long q0), .second, .val (.long q1), .second, .val (.long q2), .second, .val (.long q3), .second, .val (.int p4), .val (.long z1), .second, .val (.long z2), .second, .val (.long z3), .second, .val (.long z4), .second, .val (.double P), .second, .val (.int (0 : Int32)), .val (.int (1 : Int32)), .unset] [(.int (0 : Int32))]))
            have hc136 : (0 : Int32) = (0 : Int32) := (by decide)
            refine Runs.by (fun _ hr => XS.ifYes X5.here hx rfl (pc0 := 136) (pc' := 154) rfl (hb hby at_136) rfl ((if0 _ _).trans (teq hc136).1) (by decide) (by decide) hr) ?_
            show Runs p e below _ (T5.setTop (mkF m 154 #[.val (.long q0), .second, .val (.long q1), .second, .val (.long q2), .second, .val (.long q3), .second, .val (.int p4), .val (.long z1), .second, .val (.long z2), .second, .val (.long z3), .second, .val (.long z4), .second, .val (.double P), .second, .val (.int (0 : Int32)), .val (.int (1 : Int32)), .unset] []))
            refine Runs.by (fun _ hr => XS.iload X5.here hx rfl (hb hby at_154) rfl  hr) ?_
            show Runs p e below _ (T5.setTop (mkF m 156 #[.val (.long q0), .second, .val (.long q1), .second, .val (.long q2), .second, .val (.long q3), .second, .val (.int p4), .val (.long z1), .second, .val (.long z2), .second, .val (.long z3), .second, .val (.long z4), .second, .val (.double P), .second, .val (.int (0 : Int32)), .val (.int (1 : Int32)), .unset] [(.int (1 : Int32))]))
            have hc156 : ¬ ((1 : Int32) = (0 : Int32)) := (by decide)
            refine Runs.by (fun _ hr => XS.ifNo X5.here hx rfl (hb hby at_156) rfl ((if0 _ _).trans (feq hc156).1) hr) ?_
            show Runs p e below _ (T5.setTop (mkF m 159 #[.val (.long q0), .second, .val (.long q1), .second, .val (.long q2), .second, .val (.long q3), .second, .val (.int p4), .val (.long z1), .second, .val (.long z2), .second, .val (.long z3), .second, .val (.long z4), .second, .val (.double P), .second, .val (.int (0 : Int32)), .val (.int (1 : Int32)), .unset] []))
            refine Runs.by (fun _ hr => XS.dload X5.here hx rfl (hb hby at_159) rfl  hr) ?_
            show Runs p e below _ (T5.setTop (mkF m 161 #[.val (.long q0), .second, .val (.long q1), .second, .val (.long q2), .second, .val (.long q3), .second, .val (.int p4), .val (.long z1), .second, .val (.long z2), .second, .val (.long z3), .second, .val (.long z4), .second, .val (.double P), .second, .val (.int (0 : Int32)), .val (.int (1 : Int32)), .unset] [(.double P)]))
            refine Runs.by (fun t hr => X5.ldc2DoubleC hx hown (mvT hZ (hw _ (List.mem_of_getElem? (i := 26) rfl))) (g := (mkF m 161 #[.val (.long q0), .second, .val (.long q1), .second, .val (.long q2), .second, .val (.long q3), .second, .val (.int p4), .val (.long z1), .second, .val (.long z2), .second, .val (.long z3), .second, .val (.long z4), .second, .val (.double P), .second, .val (.int (0 : Int32)), .val (.int (1 : Int32)), .unset] [(.double P)])) rfl (hb hby at_161) t hr) ?_
            show Runs p e below _ (T5.setTop (mkF m 164 #[.val (.long q0), .second, .val (.long q1), .second, .val (.long q2), .second, .val (.long q3), .second, .val (.int p4), .val (.long z1), .second, .val (.long z2), .second, .val (.long z3), .second, .val (.long z4), .second, .val (.double P), .second, .val (.int (0 : Int32)), .val (.int (1 : Int32)), .unset] [(.double (4576918229304087675 : UInt64)), (.double P)]))
            refine Runs.by (fun _ hr => XS.dcmpS X5.here hx rfl (hb hby at_164) rfl rfl hr) ?_
            show Runs p e below _ (T5.setTop (mkF m 165 #[.val (.long q0), .second, .val (.long q1), .second, .val (.long q2), .second, .val (.long q3), .second, .val (.int p4), .val (.long z1), .second, .val (.long z2), .second, .val (.long z3), .second, .val (.long z4), .second, .val (.double P), .second, .val (.int (0 : Int32)), .val (.int (1 : Int32)), .unset] [(.int (cmpValue (FP.dcmp P (4576918229304087675 : UInt64)) .l))]))
            have hc165 : (cmpValue (FP.dcmp P (4576918229304087675 : UInt64)) .l) = (0 : Int32) := ((own_cz_eq nP own_nn01 _).mpr (LC (fun q => hc106 (own_lt5.mpr q)) gz bz))
            refine Runs.by (fun _ hr => XS.ifNo X5.here hx rfl (hb hby at_165) rfl ((if0 _ _).trans (teq hc165).2) hr) ?_
            show Runs p e below _ (T5.setTop (mkF m 168 #[.val (.long q0), .second, .val (.long q1), .second, .val (.long q2), .second, .val (.long q3), .second, .val (.int p4), .val (.long z1), .second, .val (.long z2), .second, .val (.long z3), .second, .val (.long z4), .second, .val (.double P), .second, .val (.int (0 : Int32)), .val (.int (1 : Int32)), .unset] []))
            refine Runs.by (fun _ hr => XS.iconst X5.here hx rfl (hb hby at_168) hr) ?_
            show Runs p e below _ (T5.setTop (mkF m 169 #[.val (.long q0), .second, .val (.long q1), .second, .val (.long q2), .second, .val (.long q3), .second, .val (.int p4), .val (.long z1), .second, .val (.long z2), .second, .val (.long z3), .second, .val (.long z4), .second, .val (.double P), .second, .val (.int (0 : Int32)), .val (.int (1 : Int32)), .unset] [(.int (1 : Int32))]))
            refine Runs.by (fun _ hr => XS.goto X5.here hx rfl (pc0 := 169) (pc' := 173) rfl (hb hby at_169) (by decide) (by decide) hr) ?_
            show Runs p e below _ (T5.setTop (mkF m 173 #[.val (.long q0), .second, .val (.long q1), .second, .val (.long q2), .second, .val (.long q3), .second, .val (.int p4), .val (.long z1), .second, .val (.long z2), .second, .val (.long z3), .second, .val (.long z4), .second, .val (.double P), .second, .val (.int (0 : Int32)), .val (.int (1 : Int32)), .unset] [(.int (1 : Int32))]))
            refine Runs.ret X5 hx hrt hlk (Or.inl ⟨rfl, by simp, _, rfl⟩) (by rfl) (hb hby at_173) (by decide) (by decide) ?_
            rw [eq5]
            exact ⟨rfl, N5⟩
        · -- pc 83: not (lcmpW z3 (0 : Int64)) = (0 : Int32)
          refine Runs.by (fun _ hr => XS.ifYes X5.here hx rfl (pc0 := 83) (pc' := 90) rfl (hb hby at_83) rfl ((if0 _ _).trans (feq hc83).2) (by decide) (by decide) hr) ?_
          show Runs p e below _ (T5.setTop (mkF m 90 #[.val (.long q0), .second, .val (.long q1), .second, .val (.long q2), .second, .val (.long q3), .second, .val (.int p4), .val (.long z1), .second, .val (.long z2), .second, .val (.long z3), .second, .val (.long z4), .second, .val (.double P), .second, .val (.int (0 : Int32)), .unset, .unset] []))
          refine Runs.by (fun _ hr => XS.iconst X5.here hx rfl (hb hby at_90) hr) ?_
          show Runs p e below _ (T5.setTop (mkF m 91 #[.val (.long q0), .second, .val (.long q1), .second, .val (.long q2), .second, .val (.long q3), .second, .val (.int p4), .val (.long z1), .second, .val (.long z2), .second, .val (.long z3), .second, .val (.long z4), .second, .val (.double P), .second, .val (.int (0 : Int32)), .unset, .unset] [(.int (0 : Int32))]))
          refine Runs.by (fun _ hr => XS.istore X5.here hx rfl (hb hby at_91) rfl (l' := #[.val (.long q0), .second, .val (.long q1), .second, .val (.long q2), .second, .val (.long q3), .second, .val (.int p4), .val (.long z1), .second, .val (.long z2), .second, .val (.long z3), .second, .val (.long z4), .second, .val (.double P), .second, .val (.int (0 : Int32)), .val (.int (0 : Int32)), .unset]) rfl hr) ?_
          have bz : ¬ (z1 = 0 ∨ z3 = 0) := fun z => z.elim (fun q => hc76 (own_lcz.mpr q)) (fun q => hc83 (own_lcz.mpr q))
          show Runs p e below _ (T5.setTop (mkF m 93 #[.val (.long q0), .second, .val (.long q1), .second, .val (.long q2), .second, .val (.long q3), .second, .val (.int p4), .val (.long z1), .second, .val (.long z2), .second, .val (.long z3), .second, .val (.long z4), .second, .val (.double P), .second, .val (.int (0 : Int32)), .val (.int (0 : Int32)), .unset] []))
          refine Runs.by (fun _ hr => X5.ldc2J hx hown (mvT hZ (hw _ (List.mem_of_getElem? (i := 24) rfl))) (g := (mkF m 93 #[.val (.long q0), .second, .val (.long q1), .second, .val (.long q2), .second, .val (.long q3), .second, .val (.int p4), .val (.long z1), .second, .val (.long z2), .second, .val (.long z3), .second, .val (.long z4), .second, .val (.double P), .second, .val (.int (0 : Int32)), .val (.int (0 : Int32)), .unset] [])) rfl (hb hby at_93) hr) ?_
          show Runs p e below _ (T5.setTop (mkF m 96 #[.val (.long q0), .second, .val (.long q1), .second, .val (.long q2), .second, .val (.long q3), .second, .val (.int p4), .val (.long z1), .second, .val (.long z2), .second, .val (.long z3), .second, .val (.long z4), .second, .val (.double P), .second, .val (.int (0 : Int32)), .val (.int (0 : Int32)), .unset] [(.long (2 : Int64))]))
          refine Runs.by (fun _ hr => XS.lload X5.here hx rfl (hb hby at_96) rfl  hr) ?_
          show Runs p e below _ (T5.setTop (mkF m 98 #[.val (.long q0), .second, .val (.long q1), .second, .val (.long q2), .second, .val (.long q3), .second, .val (.int p4), .val (.long z1), .second, .val (.long z2), .second, .val (.long z3), .second, .val (.long z4), .second, .val (.double P), .second, .val (.int (0 : Int32)), .val (.int (0 : Int32)), .unset] [(.long z2), (.long (2 : Int64))]))
          refine Runs.by (fun _ hr => XS.lmul X5.here hx rfl (hb hby at_98) rfl hr) ?_
          show Runs p e below _ (T5.setTop (mkF m 99 #[.val (.long q0), .second, .val (.long q1), .second, .val (.long q2), .second, .val (.long q3), .second, .val (.int p4), .val (.long z1), .second, .val (.long z2), .second, .val (.long z3), .second, .val (.long z4), .second, .val (.double P), .second, .val (.int (0 : Int32)), .val (.int (0 : Int32)), .unset] [(.long ((2 : Int64) * z2))]))
          refine Runs.by (fun _ hr => XS.lload X5.here hx rfl (hb hby at_99) rfl  hr) ?_
          show Runs p e below _ (T5.setTop (mkF m 101 #[.val (.long q0), .second, .val (.long q1), .second, .val (.long q2), .second, .val (.long q3), .second, .val (.int p4), .val (.long z1), .second, .val (.long z2), .second, .val (.long z3), .second, .val (.long z4), .second, .val (.double P), .second, .val (.int (0 : Int32)), .val (.int (0 : Int32)), .unset] [(.long z1), (.long ((2 : Int64) * z2))]))
          refine Runs.by (fun _ hr => XS.ladd X5.here hx rfl (hb hby at_101) rfl hr) ?_
          show Runs p e below _ (T5.setTop (mkF m 102 #[.val (.long q0), .second, .val (.long q1), .second, .val (.long q2), .second, .val (.long q3), .second, .val (.int p4), .val (.long z1), .second, .val (.long z2), .second, .val (.long z3), .second, .val (.long z4), .second, .val (.double P), .second, .val (.int (0 : Int32)), .val (.int (0 : Int32)), .unset] [(.long (((2 : Int64) * z2) + z1))]))
          refine Runs.by (fun _ hr => X5.ldc2J hx hown (mvT hZ (hw _ (List.mem_of_getElem? (i := 25) rfl))) (g := (mkF m 102 #[.val (.long q0), .second, .val (.long q1), .second, .val (.long q2), .second, .val (.long q3), .second, .val (.int p4), .val (.long z1), .second, .val (.long z2), .second, .val (.long z3), .second, .val (.long z4), .second, .val (.double P), .second, .val (.int (0 : Int32)), .val (.int (0 : Int32)), .unset] [(.long (((2 : Int64) * z2) + z1))])) rfl (hb hby at_102) hr) ?_
          show Runs p e below _ (T5.setTop (mkF m 105 #[.val (.long q0), .second, .val (.long q1), .second, .val (.long q2), .second, .val (.long q3), .second, .val (.int p4), .val (.long z1), .second, .val (.long z2), .second, .val (.long z3), .second, .val (.long z4), .second, .val (.double P), .second, .val (.int (0 : Int32)), .val (.int (0 : Int32)), .unset] [(.long (5 : Int64)), (.long (((2 : Int64) * z2) + z1))]))
          refine Runs.by (fun _ hr => XS.lcmp X5.here hx rfl (hb hby at_105) rfl hr) ?_
          show Runs p e below _ (T5.setTop (mkF m 106 #[.val (.long q0), .second, .val (.long q1), .second, .val (.long q2), .second, .val (.long q3), .second, .val (.int p4), .val (.long z1), .second, .val (.long z2), .second, .val (.long z3), .second, .val (.long z4), .second, .val (.double P), .second, .val (.int (0 : Int32)), .val (.int (0 : Int32)), .unset] [(.int (lcmpW (((2 : Int64) * z2) + z1) (5 : Int64)))]))
          by_cases hc106 : (lcmpW (((2 : Int64) * z2) + z1) (5 : Int64)) < (0 : Int32)
          · -- pc 106: (lcmpW (((2 : Int64) * z2) + z1) (5 : Int64)) < (0 : Int32)
            refine Runs.by (fun _ hr => XS.ifYes X5.here hx rfl (pc0 := 106) (pc' := 119) rfl (hb hby at_106) rfl ((if0 _ _).trans (tlt hc106).1) (by decide) (by decide) hr) ?_
            show Runs p e below _ (T5.setTop (mkF m 119 #[.val (.long q0), .second, .val (.long q1), .second, .val (.long q2), .second, .val (.long q3), .second, .val (.int p4), .val (.long z1), .second, .val (.long z2), .second, .val (.long z3), .second, .val (.long z4), .second, .val (.double P), .second, .val (.int (0 : Int32)), .val (.int (0 : Int32)), .unset] []))
            refine Runs.by (fun _ hr => XS.dload X5.here hx rfl (hb hby at_119) rfl  hr) ?_
            show Runs p e below _ (T5.setTop (mkF m 121 #[.val (.long q0), .second, .val (.long q1), .second, .val (.long q2), .second, .val (.long q3), .second, .val (.int p4), .val (.long z1), .second, .val (.long z2), .second, .val (.long z3), .second, .val (.long z4), .second, .val (.double P), .second, .val (.int (0 : Int32)), .val (.int (0 : Int32)), .unset] [(.double P)]))
            refine Runs.by (fun t hr => X5.ldc2DoubleC hx hown (mvT hZ (hw _ (List.mem_of_getElem? (i := 33) rfl))) (g := (mkF m 121 #[.val (.long q0), .second, .val (.long q1), .second, .val (.long q2), .second, .val (.long q3), .second, .val (.int p4), .val (.long z1), .second, .val (.long z2), .second, .val (.long z3), .second, .val (.long z4), .second, .val (.double P), .second, .val (.int (0 : Int32)), .val (.int (0 : Int32)), .unset] [(.double P)])) rfl (hb hby at_121) t hr) ?_
            show Runs p e below _ (T5.setTop (mkF m 124 #[.val (.long q0), .second, .val (.long q1), .second, .val (.long q2), .second, .val (.long q3), .second, .val (.int p4), .val (.long z1), .second, .val (.long z2), .second, .val (.long z3), .second, .val (.long z4), .second, .val (.double P), .second, .val (.int (0 : Int32)), .val (.int (0 : Int32)), .unset] [(.double (4600877379321698714 : UInt64)), (.double P)]))
            refine Runs.by (fun _ hr => XS.dcmpS X5.here hx rfl (hb hby at_124) rfl rfl hr) ?_
            show Runs p e below _ (T5.setTop (mkF m 125 #[.val (.long q0), .second, .val (.long q1), .second, .val (.long q2), .second, .val (.long q3), .second, .val (.int p4), .val (.long z1), .second, .val (.long z2), .second, .val (.long z3), .second, .val (.long z4), .second, .val (.double P), .second, .val (.int (0 : Int32)), .val (.int (0 : Int32)), .unset] [(.int (cmpValue (FP.dcmp P (4600877379321698714 : UInt64)) .l))]))
            have hc125 : (cmpValue (FP.dcmp P (4600877379321698714 : UInt64)) .l) = (0 : Int32) := ((own_cz_eq nP own_nn04 _).mpr (LA (Or.inl (own_lt5.mp hc106))))
            refine Runs.by (fun _ hr => XS.ifNo X5.here hx rfl (hb hby at_125) rfl ((if0 _ _).trans (teq hc125).2) hr) ?_
            show Runs p e below _ (T5.setTop (mkF m 128 #[.val (.long q0), .second, .val (.long q1), .second, .val (.long q2), .second, .val (.long q3), .second, .val (.int p4), .val (.long z1), .second, .val (.long z2), .second, .val (.long z3), .second, .val (.long z4), .second, .val (.double P), .second, .val (.int (0 : Int32)), .val (.int (0 : Int32)), .unset] []))
            refine Runs.by (fun _ hr => XS.iconst X5.here hx rfl (hb hby at_128) hr) ?_
            show Runs p e below _ (T5.setTop (mkF m 129 #[.val (.long q0), .second, .val (.long q1), .second, .val (.long q2), .second, .val (.long q3), .second, .val (.int p4), .val (.long z1), .second, .val (.long z2), .second, .val (.long z3), .second, .val (.long z4), .second, .val (.double P), .second, .val (.int (0 : Int32)), .val (.int (0 : Int32)), .unset] [(.int (1 : Int32))]))
            refine Runs.by (fun _ hr => XS.goto X5.here hx rfl (pc0 := 129) (pc' := 133) rfl (hb hby at_129) (by decide) (by decide) hr) ?_
            show Runs p e below _ (T5.setTop (mkF m 133 #[.val (.long q0), .second, .val (.long q1), .second, .val (.long q2), .second, .val (.long q3), .second, .val (.int p4), .val (.long z1), .second, .val (.long z2), .second, .val (.long z3), .second, .val (.long z4), .second, .val (.double P), .second, .val (.int (0 : Int32)), .val (.int (0 : Int32)), .unset] [(.int (1 : Int32))]))
            refine Runs.ret X5 hx hrt hlk (Or.inl ⟨rfl, by simp, _, rfl⟩) (by rfl) (hb hby at_133) (by decide) (by decide) ?_
            rw [eq5]
            exact ⟨rfl, N5⟩
          · -- pc 106: not (lcmpW (((2 : Int64) * z2) + z1) (5 : Int64)) < (0 : Int32)
            refine Runs.by (fun _ hr => XS.ifNo X5.here hx rfl (hb hby at_106) rfl ((if0 _ _).trans (flt hc106).1) hr) ?_
            show Runs p e below _ (T5.setTop (mkF m 109 #[.val (.long q0), .second, .val (.long q1), .second, .val (.long q2), .second, .val (.long q3), .second, .val (.int p4), .val (.long z1), .second, .val (.long z2), .second, .val (.long z3), .second, .val (.long z4), .second, .val (.double P), .second, .val (.int (0 : Int32)), .val (.int (0 : Int32)), .unset] []))
            refine Runs.by (fun _ hr => XS.iload X5.here hx rfl (hb hby at_109) rfl  hr) ?_
            show Runs p e below _ (T5.setTop (mkF m 111 #[.val (.long q0), .second, .val (.long q1), .second, .val (.long q2), .second, .val (.long q3), .second, .val (.int p4), .val (.long z1), .second, .val (.long z2), .second, .val (.long z3), .second, .val (.long z4), .second, .val (.double P), .second, .val (.int (0 : Int32)), .val (.int (0 : Int32)), .unset] [(.int (0 : Int32))]))
            have hc111 : (0 : Int32) = (0 : Int32) := (by decide)
            refine Runs.by (fun _ hr => XS.ifYes X5.here hx rfl (pc0 := 111) (pc' := 134) rfl (hb hby at_111) rfl ((if0 _ _).trans (teq hc111).1) (by decide) (by decide) hr) ?_
            show Runs p e below _ (T5.setTop (mkF m 134 #[.val (.long q0), .second, .val (.long q1), .second, .val (.long q2), .second, .val (.long q3), .second, .val (.int p4), .val (.long z1), .second, .val (.long z2), .second, .val (.long z3), .second, .val (.long z4), .second, .val (.double P), .second, .val (.int (0 : Int32)), .val (.int (0 : Int32)), .unset] []))
            refine Runs.by (fun _ hr => XS.iload X5.here hx rfl (hb hby at_134) rfl  hr) ?_
            show Runs p e below _ (T5.setTop (mkF m 136 #[.val (.long q0), .second, .val (.long q1), .second, .val (.long q2), .second, .val (.long q3), .second, .val (.int p4), .val (.long z1), .second, .val (.long z2), .second, .val (.long z3), .second, .val (.long z4), .second, .val (.double P), .second, .val (.int (0 : Int32)), .val (.int (0 : Int32)), .unset] [(.int (0 : Int32))]))
            have hc136 : (0 : Int32) = (0 : Int32) := (by decide)
            refine Runs.by (fun _ hr => XS.ifYes X5.here hx rfl (pc0 := 136) (pc' := 154) rfl (hb hby at_136) rfl ((if0 _ _).trans (teq hc136).1) (by decide) (by decide) hr) ?_
            show Runs p e below _ (T5.setTop (mkF m 154 #[.val (.long q0), .second, .val (.long q1), .second, .val (.long q2), .second, .val (.long q3), .second, .val (.int p4), .val (.long z1), .second, .val (.long z2), .second, .val (.long z3), .second, .val (.long z4), .second, .val (.double P), .second, .val (.int (0 : Int32)), .val (.int (0 : Int32)), .unset] []))
            refine Runs.by (fun _ hr => XS.iload X5.here hx rfl (hb hby at_154) rfl  hr) ?_
            show Runs p e below _ (T5.setTop (mkF m 156 #[.val (.long q0), .second, .val (.long q1), .second, .val (.long q2), .second, .val (.long q3), .second, .val (.int p4), .val (.long z1), .second, .val (.long z2), .second, .val (.long z3), .second, .val (.long z4), .second, .val (.double P), .second, .val (.int (0 : Int32)), .val (.int (0 : Int32)), .unset] [(.int (0 : Int32))]))
            have hc156 : (0 : Int32) = (0 : Int32) := (by decide)
            refine Runs.by (fun _ hr => XS.ifYes X5.here hx rfl (pc0 := 156) (pc' := 174) rfl (hb hby at_156) rfl ((if0 _ _).trans (teq hc156).1) (by decide) (by decide) hr) ?_
            show Runs p e below _ (T5.setTop (mkF m 174 #[.val (.long q0), .second, .val (.long q1), .second, .val (.long q2), .second, .val (.long q3), .second, .val (.int p4), .val (.long z1), .second, .val (.long z2), .second, .val (.long z3), .second, .val (.long z4), .second, .val (.double P), .second, .val (.int (0 : Int32)), .val (.int (0 : Int32)), .unset] []))
            refine Runs.by (fun _ hr => XS.dload X5.here hx rfl (hb hby at_174) rfl  hr) ?_
            show Runs p e below _ (T5.setTop (mkF m 176 #[.val (.long q0), .second, .val (.long q1), .second, .val (.long q2), .second, .val (.long q3), .second, .val (.int p4), .val (.long z1), .second, .val (.long z2), .second, .val (.long z3), .second, .val (.long z4), .second, .val (.double P), .second, .val (.int (0 : Int32)), .val (.int (0 : Int32)), .unset] [(.double P)]))
            refine Runs.by (fun t hr => X5.ldc2DoubleC hx hown (mvT hZ (hw _ (List.mem_of_getElem? (i := 26) rfl))) (g := (mkF m 176 #[.val (.long q0), .second, .val (.long q1), .second, .val (.long q2), .second, .val (.long q3), .second, .val (.int p4), .val (.long z1), .second, .val (.long z2), .second, .val (.long z3), .second, .val (.long z4), .second, .val (.double P), .second, .val (.int (0 : Int32)), .val (.int (0 : Int32)), .unset] [(.double P)])) rfl (hb hby at_176) t hr) ?_
            show Runs p e below _ (T5.setTop (mkF m 179 #[.val (.long q0), .second, .val (.long q1), .second, .val (.long q2), .second, .val (.long q3), .second, .val (.int p4), .val (.long z1), .second, .val (.long z2), .second, .val (.long z3), .second, .val (.long z4), .second, .val (.double P), .second, .val (.int (0 : Int32)), .val (.int (0 : Int32)), .unset] [(.double (4576918229304087675 : UInt64)), (.double P)]))
            refine Runs.by (fun _ hr => XS.dcmpS X5.here hx rfl (hb hby at_179) rfl rfl hr) ?_
            show Runs p e below _ (T5.setTop (mkF m 180 #[.val (.long q0), .second, .val (.long q1), .second, .val (.long q2), .second, .val (.long q3), .second, .val (.int p4), .val (.long z1), .second, .val (.long z2), .second, .val (.long z3), .second, .val (.long z4), .second, .val (.double P), .second, .val (.int (0 : Int32)), .val (.int (0 : Int32)), .unset] [(.int (cmpValue (FP.dcmp P (4576918229304087675 : UInt64)) .l))]))
            have hc180 : ¬ ((cmpValue (FP.dcmp P (4576918229304087675 : UInt64)) .l) < (0 : Int32)) := (fun q => Int.not_lt.mpr (LD (fun q => hc106 (own_lt5.mpr q)) gz bz).1 ((own_cz_lt nP own_nn01 _).mp q))
            refine Runs.by (fun _ hr => XS.ifNo X5.here hx rfl (hb hby at_180) rfl ((if0 _ _).trans (flt hc180).1) hr) ?_
            show Runs p e below _ (T5.setTop (mkF m 183 #[.val (.long q0), .second, .val (.long q1), .second, .val (.long q2), .second, .val (.long q3), .second, .val (.int p4), .val (.long z1), .second, .val (.long z2), .second, .val (.long z3), .second, .val (.long z4), .second, .val (.double P), .second, .val (.int (0 : Int32)), .val (.int (0 : Int32)), .unset] []))
            refine Runs.by (fun _ hr => XS.dload X5.here hx rfl (hb hby at_183) rfl  hr) ?_
            show Runs p e below _ (T5.setTop (mkF m 185 #[.val (.long q0), .second, .val (.long q1), .second, .val (.long q2), .second, .val (.long q3), .second, .val (.int p4), .val (.long z1), .second, .val (.long z2), .second, .val (.long z3), .second, .val (.long z4), .second, .val (.double P), .second, .val (.int (0 : Int32)), .val (.int (0 : Int32)), .unset] [(.double P)]))
            refine Runs.by (fun t hr => X5.ldc2DoubleC hx hown (mvT hZ (hw _ (List.mem_of_getElem? (i := 27) rfl))) (g := (mkF m 185 #[.val (.long q0), .second, .val (.long q1), .second, .val (.long q2), .second, .val (.long q3), .second, .val (.int p4), .val (.long z1), .second, .val (.long z2), .second, .val (.long z3), .second, .val (.long z4), .second, .val (.double P), .second, .val (.int (0 : Int32)), .val (.int (0 : Int32)), .unset] [(.double P)])) rfl (hb hby at_185) t hr) ?_
            show Runs p e below _ (T5.setTop (mkF m 188 #[.val (.long q0), .second, .val (.long q1), .second, .val (.long q2), .second, .val (.long q3), .second, .val (.int p4), .val (.long z1), .second, .val (.long z2), .second, .val (.long z3), .second, .val (.long z4), .second, .val (.double P), .second, .val (.int (0 : Int32)), .val (.int (0 : Int32)), .unset] [(.double (4607092346807469998 : UInt64)), (.double P)]))
            refine Runs.by (fun _ hr => XS.dcmpS X5.here hx rfl (hb hby at_188) rfl rfl hr) ?_
            show Runs p e below _ (T5.setTop (mkF m 189 #[.val (.long q0), .second, .val (.long q1), .second, .val (.long q2), .second, .val (.long q3), .second, .val (.int p4), .val (.long z1), .second, .val (.long z2), .second, .val (.long z3), .second, .val (.long z4), .second, .val (.double P), .second, .val (.int (0 : Int32)), .val (.int (0 : Int32)), .unset] [(.int (cmpValue (FP.dcmp P (4607092346807469998 : UInt64)) .g))]))
            have hc189 : ¬ ((0 : Int32) < (cmpValue (FP.dcmp P (4607092346807469998 : UInt64)) .g)) := (fun q => Int.not_lt.mpr (LD (fun q => hc106 (own_lt5.mpr q)) gz bz).2.1 ((own_cz_gt nP own_nn99 _).mp q))
            refine Runs.by (fun _ hr => XS.ifYes X5.here hx rfl (pc0 := 189) (pc' := 194) rfl (hb hby at_189) rfl ((if0 _ _).trans (flt hc189).2.2.2) (by decide) (by decide) hr) ?_
            show Runs p e below _ (T5.setTop (mkF m 194 #[.val (.long q0), .second, .val (.long q1), .second, .val (.long q2), .second, .val (.long q3), .second, .val (.int p4), .val (.long z1), .second, .val (.long z2), .second, .val (.long z3), .second, .val (.long z4), .second, .val (.double P), .second, .val (.int (0 : Int32)), .val (.int (0 : Int32)), .unset] []))
            refine Runs.by (fun _ hr => XS.lload X5.here hx rfl (hb hby at_194) rfl  hr) ?_
            show Runs p e below _ (T5.setTop (mkF m 196 #[.val (.long q0), .second, .val (.long q1), .second, .val (.long q2), .second, .val (.long q3), .second, .val (.int p4), .val (.long z1), .second, .val (.long z2), .second, .val (.long z3), .second, .val (.long z4), .second, .val (.double P), .second, .val (.int (0 : Int32)), .val (.int (0 : Int32)), .unset] [(.long z1)]))
            refine Runs.by (fun _ hr => XS.lload X5.here hx rfl (hb hby at_196) rfl  hr) ?_
            show Runs p e below _ (T5.setTop (mkF m 198 #[.val (.long q0), .second, .val (.long q1), .second, .val (.long q2), .second, .val (.long q3), .second, .val (.int p4), .val (.long z1), .second, .val (.long z2), .second, .val (.long z3), .second, .val (.long z4), .second, .val (.double P), .second, .val (.int (0 : Int32)), .val (.int (0 : Int32)), .unset] [(.long z3), (.long z1)]))
            refine Runs.by (fun _ hr => X5.ldc2J hx hown (mvT hZ (hw _ (List.mem_of_getElem? (i := 24) rfl))) (g := (mkF m 198 #[.val (.long q0), .second, .val (.long q1), .second, .val (.long q2), .second, .val (.long q3), .second, .val (.int p4), .val (.long z1), .second, .val (.long z2), .second, .val (.long z3), .second, .val (.long z4), .second, .val (.double P), .second, .val (.int (0 : Int32)), .val (.int (0 : Int32)), .unset] [(.long z3), (.long z1)])) rfl (hb hby at_198) hr) ?_
            show Runs p e below _ (T5.setTop (mkF m 201 #[.val (.long q0), .second, .val (.long q1), .second, .val (.long q2), .second, .val (.long q3), .second, .val (.int p4), .val (.long z1), .second, .val (.long z2), .second, .val (.long z3), .second, .val (.long z4), .second, .val (.double P), .second, .val (.int (0 : Int32)), .val (.int (0 : Int32)), .unset] [(.long (2 : Int64)), (.long z3), (.long z1)]))
            refine Runs.by (fun _ hr => XS.lload X5.here hx rfl (hb hby at_201) rfl  hr) ?_
            show Runs p e below _ (T5.setTop (mkF m 203 #[.val (.long q0), .second, .val (.long q1), .second, .val (.long q2), .second, .val (.long q3), .second, .val (.int p4), .val (.long z1), .second, .val (.long z2), .second, .val (.long z3), .second, .val (.long z4), .second, .val (.double P), .second, .val (.int (0 : Int32)), .val (.int (0 : Int32)), .unset] [(.long z2), (.long (2 : Int64)), (.long z3), (.long z1)]))
            refine Runs.by (fun _ hr => XS.lmul X5.here hx rfl (hb hby at_203) rfl hr) ?_
            show Runs p e below _ (T5.setTop (mkF m 204 #[.val (.long q0), .second, .val (.long q1), .second, .val (.long q2), .second, .val (.long q3), .second, .val (.int p4), .val (.long z1), .second, .val (.long z2), .second, .val (.long z3), .second, .val (.long z4), .second, .val (.double P), .second, .val (.int (0 : Int32)), .val (.int (0 : Int32)), .unset] [(.long ((2 : Int64) * z2)), (.long z3), (.long z1)]))
            refine Runs.by (fun _ hr => XS.lload X5.here hx rfl (hb hby at_204) rfl  hr) ?_
            show Runs p e below _ (T5.setTop (mkF m 206 #[.val (.long q0), .second, .val (.long q1), .second, .val (.long q2), .second, .val (.long q3), .second, .val (.int p4), .val (.long z1), .second, .val (.long z2), .second, .val (.long z3), .second, .val (.long z4), .second, .val (.double P), .second, .val (.int (0 : Int32)), .val (.int (0 : Int32)), .unset] [(.long z4), (.long ((2 : Int64) * z2)), (.long z3), (.long z1)]))
            obtain ⟨_, _, ⟨T6, L6, k6, n6⟩, -, X6, ⟨Lc6, hQ6, l6, y6, z6⟩, st6⟩ := Jvm.LawKit.callS X5 hx (y := (⟨"com/example/word_odds/wordodds/odds/OddsWordProbabilityPinLaw", "compare", "(JJJJ)I"⟩ : MethodName)) hown (mvT hZ (hw _ (List.mem_of_getElem? (i := 28) rfl))) (mvT hZ (hw _ (List.mem_of_getElem? (i := 29) rfl))) (mvT hZ (hw _ (List.mem_of_getElem? (i := 2) rfl))) (mvT hZ (hw _ (List.mem_of_getElem? (i := 30) rfl))) (by decide) (backOf (W := 0) (rm6 l Z a0 hw [] z1 z3 ((2 : Int64) * z2) z4 h0 n0 (Nat.le_trans Z0 K0.1) kz1 kz3 (own_k2m kz2) kz4) hZ (hw _ (List.mem_of_getElem? (i := 30) rfl)) (hw _ (List.mem_of_getElem? (i := 2) rfl)) (by decide) (by decide)) (g := (mkF m 206 #[.val (.long q0), .second, .val (.long q1), .second, .val (.long q2), .second, .val (.long q3), .second, .val (.int p4), .val (.long z1), .second, .val (.long z2), .second, .val (.long z3), .second, .val (.long z4), .second, .val (.double P), .second, .val (.int (0 : Int32)), .val (.int (0 : Int32)), .unset] [(.long z4), (.long ((2 : Int64) * z2)), (.long z3), (.long z1)])) rfl (by rw [hml]; rfl) (argsL := [(.long z1), (.long z3), (.long ((2 : Int64) * z2)), (.long z4)]) (rest := []) (lenOf pd_4 rfl) rfl (by show 2 * 0 + _ ≤ _; exact Nat.le_of_eq rfl) (hb hby at_206) (fun _ _ => ⟨rfl, eq5, (by decide : 0 + 0 ≤ _), (by decide : 0 + 0 ≤ _)⟩)
            dsimp only [Pt.U, Pt.locs, Pt.cells, Pt.slots] at X6 l6 y6 z6 st6 hQ6
            subst l6 y6 z6
            obtain ⟨z6, rfl, cz6, Nq6, eq6⟩ := hQ6
            have N6 := Fr.app N5 Nq6
            refine Runs.by (fun t hr => st6 t hr) ?_
            show Runs p e below _ (T6.setTop (mkF m 209 #[.val (.long q0), .second, .val (.long q1), .second, .val (.long q2), .second, .val (.long q3), .second, .val (.int p4), .val (.long z1), .second, .val (.long z2), .second, .val (.long z3), .second, .val (.long z4), .second, .val (.double P), .second, .val (.int (0 : Int32)), .val (.int (0 : Int32)), .unset] [(.int z6)]))
            refine Runs.by (fun _ hr => XS.istore X6.here hx rfl (hb hby at_209) rfl (l' := #[.val (.long q0), .second, .val (.long q1), .second, .val (.long q2), .second, .val (.long q3), .second, .val (.int p4), .val (.long z1), .second, .val (.long z2), .second, .val (.long z3), .second, .val (.long z4), .second, .val (.double P), .second, .val (.int (0 : Int32)), .val (.int (0 : Int32)), .val (.int z6)]) rfl hr) ?_
            show Runs p e below _ (T6.setTop (mkF m 211 #[.val (.long q0), .second, .val (.long q1), .second, .val (.long q2), .second, .val (.long q3), .second, .val (.int p4), .val (.long z1), .second, .val (.long z2), .second, .val (.long z3), .second, .val (.long z4), .second, .val (.double P), .second, .val (.int (0 : Int32)), .val (.int (0 : Int32)), .val (.int z6)] []))
            refine Runs.by (fun _ hr => XS.iload X6.here hx rfl (hb hby at_211) rfl  hr) ?_
            show Runs p e below _ (T6.setTop (mkF m 213 #[.val (.long q0), .second, .val (.long q1), .second, .val (.long q2), .second, .val (.long q3), .second, .val (.int p4), .val (.long z1), .second, .val (.long z2), .second, .val (.long z3), .second, .val (.long z4), .second, .val (.double P), .second, .val (.int (0 : Int32)), .val (.int (0 : Int32)), .val (.int z6)] [(.int z6)]))
            by_cases hc213 : (0 : Int32) < z6
            · -- pc 213: (0 : Int32) < z6
              refine Runs.by (fun _ hr => XS.ifNo X6.here hx rfl (hb hby at_213) rfl ((if0 _ _).trans (tlt hc213).2.2.2) hr) ?_
              show Runs p e below _ (T6.setTop (mkF m 216 #[.val (.long q0), .second, .val (.long q1), .second, .val (.long q2), .second, .val (.long q3), .second, .val (.int p4), .val (.long z1), .second, .val (.long z2), .second, .val (.long z3), .second, .val (.long z4), .second, .val (.double P), .second, .val (.int (0 : Int32)), .val (.int (0 : Int32)), .val (.int z6)] []))
              refine Runs.by (fun _ hr => XS.dload X6.here hx rfl (hb hby at_216) rfl  hr) ?_
              show Runs p e below _ (T6.setTop (mkF m 218 #[.val (.long q0), .second, .val (.long q1), .second, .val (.long q2), .second, .val (.long q3), .second, .val (.int p4), .val (.long z1), .second, .val (.long z2), .second, .val (.long z3), .second, .val (.long z4), .second, .val (.double P), .second, .val (.int (0 : Int32)), .val (.int (0 : Int32)), .val (.int z6)] [(.double P)]))
              refine Runs.by (fun t hr => X6.ldc2DoubleC hx hown (mvT hZ (hw _ (List.mem_of_getElem? (i := 31) rfl))) (g := (mkF m 218 #[.val (.long q0), .second, .val (.long q1), .second, .val (.long q2), .second, .val (.long q3), .second, .val (.int p4), .val (.long z1), .second, .val (.long z2), .second, .val (.long z3), .second, .val (.long z4), .second, .val (.double P), .second, .val (.int (0 : Int32)), .val (.int (0 : Int32)), .val (.int z6)] [(.double P)])) rfl (hb hby at_218) t hr) ?_
              show Runs p e below _ (T6.setTop (mkF m 221 #[.val (.long q0), .second, .val (.long q1), .second, .val (.long q2), .second, .val (.long q3), .second, .val (.int p4), .val (.long z1), .second, .val (.long z2), .second, .val (.long z3), .second, .val (.long z4), .second, .val (.double P), .second, .val (.int (0 : Int32)), .val (.int (0 : Int32)), .val (.int z6)] [(.double (4602678819172646912 : UInt64)), (.double P)]))
              refine Runs.by (fun _ hr => XS.dcmpS X6.here hx rfl (hb hby at_221) rfl rfl hr) ?_
              show Runs p e below _ (T6.setTop (mkF m 222 #[.val (.long q0), .second, .val (.long q1), .second, .val (.long q2), .second, .val (.long q3), .second, .val (.int p4), .val (.long z1), .second, .val (.long z2), .second, .val (.long z3), .second, .val (.long z4), .second, .val (.double P), .second, .val (.int (0 : Int32)), .val (.int (0 : Int32)), .val (.int z6)] [(.int (cmpValue (FP.dcmp P (4602678819172646912 : UInt64)) .l))]))
              have hc222 : ¬ ((cmpValue (FP.dcmp P (4602678819172646912 : UInt64)) .l) < (0 : Int32)) := (fun q => Int.not_lt.mpr ((LD (fun q => hc106 (own_lt5.mpr q)) gz bz).2.2.1 (own_CG cz6 kz1 kz2 kz3 kz4 (fun q => bz (Or.inr q)) (fun q => gz (Or.inr q)) (Int32.le_of_lt hc213))) ((own_cz_lt nP own_nn05 _).mp q))
              refine Runs.by (fun _ hr => XS.ifNo X6.here hx rfl (hb hby at_222) rfl ((if0 _ _).trans (flt hc222).1) hr) ?_
              show Runs p e below _ (T6.setTop (mkF m 225 #[.val (.long q0), .second, .val (.long q1), .second, .val (.long q2), .second, .val (.long q3), .second, .val (.int p4), .val (.long z1), .second, .val (.long z2), .second, .val (.long z3), .second, .val (.long z4), .second, .val (.double P), .second, .val (.int (0 : Int32)), .val (.int (0 : Int32)), .val (.int z6)] []))
              refine Runs.by (fun _ hr => XS.iconst X6.here hx rfl (hb hby at_225) hr) ?_
              show Runs p e below _ (T6.setTop (mkF m 226 #[.val (.long q0), .second, .val (.long q1), .second, .val (.long q2), .second, .val (.long q3), .second, .val (.int p4), .val (.long z1), .second, .val (.long z2), .second, .val (.long z3), .second, .val (.long z4), .second, .val (.double P), .second, .val (.int (0 : Int32)), .val (.int (0 : Int32)), .val (.int z6)] [(.int (1 : Int32))]))
              refine Runs.by (fun _ hr => XS.goto X6.here hx rfl (pc0 := 226) (pc' := 230) rfl (hb hby at_226) (by decide) (by decide) hr) ?_
              show Runs p e below _ (T6.setTop (mkF m 230 #[.val (.long q0), .second, .val (.long q1), .second, .val (.long q2), .second, .val (.long q3), .second, .val (.int p4), .val (.long z1), .second, .val (.long z2), .second, .val (.long z3), .second, .val (.long z4), .second, .val (.double P), .second, .val (.int (0 : Int32)), .val (.int (0 : Int32)), .val (.int z6)] [(.int (1 : Int32))]))
              refine Runs.ret X6 hx hrt hlk (Or.inl ⟨rfl, by simp, _, rfl⟩) (by rfl) (hb hby at_230) (by decide) (by decide) ?_
              rw [eq6]
              exact ⟨rfl, N6⟩
            · -- pc 213: not (0 : Int32) < z6
              refine Runs.by (fun _ hr => XS.ifYes X6.here hx rfl (pc0 := 213) (pc' := 231) rfl (hb hby at_213) rfl ((if0 _ _).trans (flt hc213).2.2.2) (by decide) (by decide) hr) ?_
              show Runs p e below _ (T6.setTop (mkF m 231 #[.val (.long q0), .second, .val (.long q1), .second, .val (.long q2), .second, .val (.long q3), .second, .val (.int p4), .val (.long z1), .second, .val (.long z2), .second, .val (.long z3), .second, .val (.long z4), .second, .val (.double P), .second, .val (.int (0 : Int32)), .val (.int (0 : Int32)), .val (.int z6)] []))
              refine Runs.by (fun _ hr => XS.iload X6.here hx rfl (hb hby at_231) rfl  hr) ?_
              show Runs p e below _ (T6.setTop (mkF m 233 #[.val (.long q0), .second, .val (.long q1), .second, .val (.long q2), .second, .val (.long q3), .second, .val (.int p4), .val (.long z1), .second, .val (.long z2), .second, .val (.long z3), .second, .val (.long z4), .second, .val (.double P), .second, .val (.int (0 : Int32)), .val (.int (0 : Int32)), .val (.int z6)] [(.int z6)]))
              by_cases hc233 : z6 < (0 : Int32)
              · -- pc 233: z6 < (0 : Int32)
                refine Runs.by (fun _ hr => XS.ifNo X6.here hx rfl (hb hby at_233) rfl ((if0 _ _).trans (tlt hc233).2.1) hr) ?_
                show Runs p e below _ (T6.setTop (mkF m 236 #[.val (.long q0), .second, .val (.long q1), .second, .val (.long q2), .second, .val (.long q3), .second, .val (.int p4), .val (.long z1), .second, .val (.long z2), .second, .val (.long z3), .second, .val (.long z4), .second, .val (.double P), .second, .val (.int (0 : Int32)), .val (.int (0 : Int32)), .val (.int z6)] []))
                refine Runs.by (fun _ hr => XS.dload X6.here hx rfl (hb hby at_236) rfl  hr) ?_
                show Runs p e below _ (T6.setTop (mkF m 238 #[.val (.long q0), .second, .val (.long q1), .second, .val (.long q2), .second, .val (.long q3), .second, .val (.int p4), .val (.long z1), .second, .val (.long z2), .second, .val (.long z3), .second, .val (.long z4), .second, .val (.double P), .second, .val (.int (0 : Int32)), .val (.int (0 : Int32)), .val (.int z6)] [(.double P)]))
                refine Runs.by (fun t hr => X6.ldc2DoubleC hx hown (mvT hZ (hw _ (List.mem_of_getElem? (i := 31) rfl))) (g := (mkF m 238 #[.val (.long q0), .second, .val (.long q1), .second, .val (.long q2), .second, .val (.long q3), .second, .val (.int p4), .val (.long z1), .second, .val (.long z2), .second, .val (.long z3), .second, .val (.long z4), .second, .val (.double P), .second, .val (.int (0 : Int32)), .val (.int (0 : Int32)), .val (.int z6)] [(.double P)])) rfl (hb hby at_238) t hr) ?_
                show Runs p e below _ (T6.setTop (mkF m 241 #[.val (.long q0), .second, .val (.long q1), .second, .val (.long q2), .second, .val (.long q3), .second, .val (.int p4), .val (.long z1), .second, .val (.long z2), .second, .val (.long z3), .second, .val (.long z4), .second, .val (.double P), .second, .val (.int (0 : Int32)), .val (.int (0 : Int32)), .val (.int z6)] [(.double (4602678819172646912 : UInt64)), (.double P)]))
                refine Runs.by (fun _ hr => XS.dcmpS X6.here hx rfl (hb hby at_241) rfl rfl hr) ?_
                show Runs p e below _ (T6.setTop (mkF m 242 #[.val (.long q0), .second, .val (.long q1), .second, .val (.long q2), .second, .val (.long q3), .second, .val (.int p4), .val (.long z1), .second, .val (.long z2), .second, .val (.long z3), .second, .val (.long z4), .second, .val (.double P), .second, .val (.int (0 : Int32)), .val (.int (0 : Int32)), .val (.int z6)] [(.int (cmpValue (FP.dcmp P (4602678819172646912 : UInt64)) .g))]))
                have hc242 : ¬ ((0 : Int32) < (cmpValue (FP.dcmp P (4602678819172646912 : UInt64)) .g)) := (fun q => Int.not_lt.mpr ((LD (fun q => hc106 (own_lt5.mpr q)) gz bz).2.2.2 (own_CL cz6 kz1 kz2 kz3 kz4 (fun q => bz (Or.inr q)) (fun q => gz (Or.inr q)) (Int32.le_of_lt hc233))) ((own_cz_gt nP own_nn05 _).mp q))
                refine Runs.by (fun _ hr => XS.ifNo X6.here hx rfl (hb hby at_242) rfl ((if0 _ _).trans (flt hc242).2.2.1) hr) ?_
                show Runs p e below _ (T6.setTop (mkF m 245 #[.val (.long q0), .second, .val (.long q1), .second, .val (.long q2), .second, .val (.long q3), .second, .val (.int p4), .val (.long z1), .second, .val (.long z2), .second, .val (.long z3), .second, .val (.long z4), .second, .val (.double P), .second, .val (.int (0 : Int32)), .val (.int (0 : Int32)), .val (.int z6)] []))
                refine Runs.by (fun _ hr => XS.iconst X6.here hx rfl (hb hby at_245) hr) ?_
                show Runs p e below _ (T6.setTop (mkF m 246 #[.val (.long q0), .second, .val (.long q1), .second, .val (.long q2), .second, .val (.long q3), .second, .val (.int p4), .val (.long z1), .second, .val (.long z2), .second, .val (.long z3), .second, .val (.long z4), .second, .val (.double P), .second, .val (.int (0 : Int32)), .val (.int (0 : Int32)), .val (.int z6)] [(.int (1 : Int32))]))
                refine Runs.by (fun _ hr => XS.goto X6.here hx rfl (pc0 := 246) (pc' := 250) rfl (hb hby at_246) (by decide) (by decide) hr) ?_
                show Runs p e below _ (T6.setTop (mkF m 250 #[.val (.long q0), .second, .val (.long q1), .second, .val (.long q2), .second, .val (.long q3), .second, .val (.int p4), .val (.long z1), .second, .val (.long z2), .second, .val (.long z3), .second, .val (.long z4), .second, .val (.double P), .second, .val (.int (0 : Int32)), .val (.int (0 : Int32)), .val (.int z6)] [(.int (1 : Int32))]))
                refine Runs.ret X6 hx hrt hlk (Or.inl ⟨rfl, by simp, _, rfl⟩) (by rfl) (hb hby at_250) (by decide) (by decide) ?_
                rw [eq6]
                exact ⟨rfl, N6⟩
              · -- pc 233: not z6 < (0 : Int32)
                refine Runs.by (fun _ hr => XS.ifYes X6.here hx rfl (pc0 := 233) (pc' := 251) rfl (hb hby at_233) rfl ((if0 _ _).trans (flt hc233).2.1) (by decide) (by decide) hr) ?_
                show Runs p e below _ (T6.setTop (mkF m 251 #[.val (.long q0), .second, .val (.long q1), .second, .val (.long q2), .second, .val (.long q3), .second, .val (.int p4), .val (.long z1), .second, .val (.long z2), .second, .val (.long z3), .second, .val (.long z4), .second, .val (.double P), .second, .val (.int (0 : Int32)), .val (.int (0 : Int32)), .val (.int z6)] []))
                refine Runs.by (fun _ hr => XS.dload X6.here hx rfl (hb hby at_251) rfl  hr) ?_
                show Runs p e below _ (T6.setTop (mkF m 253 #[.val (.long q0), .second, .val (.long q1), .second, .val (.long q2), .second, .val (.long q3), .second, .val (.int p4), .val (.long z1), .second, .val (.long z2), .second, .val (.long z3), .second, .val (.long z4), .second, .val (.double P), .second, .val (.int (0 : Int32)), .val (.int (0 : Int32)), .val (.int z6)] [(.double P)]))
                refine Runs.by (fun t hr => X6.ldc2DoubleC hx hown (mvT hZ (hw _ (List.mem_of_getElem? (i := 31) rfl))) (g := (mkF m 253 #[.val (.long q0), .second, .val (.long q1), .second, .val (.long q2), .second, .val (.long q3), .second, .val (.int p4), .val (.long z1), .second, .val (.long z2), .second, .val (.long z3), .second, .val (.long z4), .second, .val (.double P), .second, .val (.int (0 : Int32)), .val (.int (0 : Int32)), .val (.int z6)] [(.double P)])) rfl (hb hby at_253) t hr) ?_
                show Runs p e below _ (T6.setTop (mkF m 256 #[.val (.long q0), .second, .val (.long q1), .second, .val (.long q2), .second, .val (.long q3), .second, .val (.int p4), .val (.long z1), .second, .val (.long z2), .second, .val (.long z3), .second, .val (.long z4), .second, .val (.double P), .second, .val (.int (0 : Int32)), .val (.int (0 : Int32)), .val (.int z6)] [(.double (4602678819172646912 : UInt64)), (.double P)]))
                refine Runs.by (fun _ hr => XS.dcmpS X6.here hx rfl (hb hby at_256) rfl rfl hr) ?_
                show Runs p e below _ (T6.setTop (mkF m 257 #[.val (.long q0), .second, .val (.long q1), .second, .val (.long q2), .second, .val (.long q3), .second, .val (.int p4), .val (.long z1), .second, .val (.long z2), .second, .val (.long z3), .second, .val (.long z4), .second, .val (.double P), .second, .val (.int (0 : Int32)), .val (.int (0 : Int32)), .val (.int z6)] [(.int (cmpValue (FP.dcmp P (4602678819172646912 : UInt64)) .l))]))
                have hc257 : (cmpValue (FP.dcmp P (4602678819172646912 : UInt64)) .l) = (0 : Int32) := ((own_cz_eq nP own_nn05 _).mpr (Int.le_antisymm ((LD (fun q => hc106 (own_lt5.mpr q)) gz bz).2.2.2 (own_CL cz6 kz1 kz2 kz3 kz4 (fun q => bz (Or.inr q)) (fun q => gz (Or.inr q)) (Int32.not_lt.mp hc213))) ((LD (fun q => hc106 (own_lt5.mpr q)) gz bz).2.2.1 (own_CG cz6 kz1 kz2 kz3 kz4 (fun q => bz (Or.inr q)) (fun q => gz (Or.inr q)) (Int32.not_lt.mp hc233)))))
                refine Runs.by (fun _ hr => XS.ifNo X6.here hx rfl (hb hby at_257) rfl ((if0 _ _).trans (teq hc257).2) hr) ?_
                show Runs p e below _ (T6.setTop (mkF m 260 #[.val (.long q0), .second, .val (.long q1), .second, .val (.long q2), .second, .val (.long q3), .second, .val (.int p4), .val (.long z1), .second, .val (.long z2), .second, .val (.long z3), .second, .val (.long z4), .second, .val (.double P), .second, .val (.int (0 : Int32)), .val (.int (0 : Int32)), .val (.int z6)] []))
                refine Runs.by (fun _ hr => XS.iconst X6.here hx rfl (hb hby at_260) hr) ?_
                show Runs p e below _ (T6.setTop (mkF m 261 #[.val (.long q0), .second, .val (.long q1), .second, .val (.long q2), .second, .val (.long q3), .second, .val (.int p4), .val (.long z1), .second, .val (.long z2), .second, .val (.long z3), .second, .val (.long z4), .second, .val (.double P), .second, .val (.int (0 : Int32)), .val (.int (0 : Int32)), .val (.int z6)] [(.int (1 : Int32))]))
                refine Runs.by (fun _ hr => XS.goto X6.here hx rfl (pc0 := 261) (pc' := 265) rfl (hb hby at_261) (by decide) (by decide) hr) ?_
                show Runs p e below _ (T6.setTop (mkF m 265 #[.val (.long q0), .second, .val (.long q1), .second, .val (.long q2), .second, .val (.long q3), .second, .val (.int p4), .val (.long z1), .second, .val (.long z2), .second, .val (.long z3), .second, .val (.long z4), .second, .val (.double P), .second, .val (.int (0 : Int32)), .val (.int (0 : Int32)), .val (.int z6)] [(.int (1 : Int32))]))
                refine Runs.ret X6 hx hrt hlk (Or.inl ⟨rfl, by simp, _, rfl⟩) (by rfl) (hb hby at_265) (by decide) (by decide) ?_
                rw [eq6]
                exact ⟨rfl, N6⟩
set_option maxRecDepth 65536 in
set_option maxHeartbeats 40000000 in
theorem comes_1 {Post : Tables → Env → Array Value → State → Outcome → State → Prop} (hpost : ∀ tb e args s v u, (limb_1_1.after args s (.returned v) u = true ∧ limb_1_2.after args s (.returned v) u = true ∧ True) → FrameEnd s (.returned v) u (Jvm.fieldLocs frame_1_writes args s ++ Jvm.arrayLocs frame_1_arrays args s ++ Jvm.staticLocs frame_1_statics s) 0 0 → Post tb e args s (.returned v) u) :
    ArmFor flags0 classFile x code maxLocals ret World_1 tables_1 room_1 Calls_1 rest_1 Pre_1 Post := by
  intro l hfl _ _ p e ha hc hk s m args below hf hA hF happ hP
  obtain ⟨hcalls, hrest, hpre⟩ := hP
  obtain ⟨-, -, -, hnamed, -, -, -, hat⟩ := (Spec.applies_iff hf).mp happ
  obtain ⟨hg, hn⟩ := and_e (Cond.before_iff.mp (show (Jvm.Cond.and given_1 narrow_1).before args s = true from hpre))
  obtain ⟨g1, g2⟩ := and_e hg
  obtain ⟨g3, g4⟩ := and_e g2
  obtain ⟨g5, g6⟩ := and_e g4
  obtain ⟨g7, g8⟩ := and_e g6
  obtain ⟨g9, g10⟩ := and_e g8
  obtain ⟨w0, w1, w2, w3, w4, rfl⟩ : ∃ w0 w1 w2 w3 w4 : Value, args = #[w0, w1, w2, w3, w4] := by
    have hs : args.size = 5 := by simpa [Cond.value, given_1] using g1
    obtain ⟨L⟩ := args
    match L, hs with
    | [w0, w1, w2, w3, w4], _ => exact ⟨w0, w1, w2, w3, w4, rfl⟩
  have hw := fun d (hd : d ∈ tables_1) => atoms_spec (ws := Jvm.Cond.code x code maxLocals ret :: tables_1) hat d (List.mem_cons_of_mem _ hd)
  have hfit : Fit s := fun {y c} hc i hi => by
    obtain ⟨ha, rfl⟩ := Array.getElem?_eq_some_iff.mp hc
    have q := List.all_eq_true.mp ((Array.all_eq_true_iff_forall_mem.mp hF) _ (Array.getElem_mem ha)) i (List.mem_range.mpr hi)
    simpa [Array.getElem?_eq_getElem hi] using q
  obtain ⟨i0, ei0⟩ := isL_v g3
  obtain rfl : w0 = (.long i0) := Option.some.inj ei0
  obtain ⟨i1, ei1⟩ := isL_v g5
  obtain rfl : w1 = (.long i1) := Option.some.inj ei1
  obtain ⟨i2, ei2⟩ := isL_v g7
  obtain rfl : w2 = (.long i2) := Option.some.inj ei2
  obtain ⟨i3, ei3⟩ := isL_v g9
  obtain rfl : w3 = (.long i3) := Option.some.inj ei3
  obtain ⟨i4, ei4⟩ := is_v g10
  obtain rfl : w4 = (.int i4) := Option.some.inj ei4
  obtain ⟨n, o, h1, h2, h3, _, L, rfl, ⟨rfl, N⟩, hq⟩ := rm0 l s _ hw tables_1 i0 i1 i2 i3 i4  s.heap s.heap.size (Nat.le_refl _)  p e ha hc hk s m _ below hf ((Spec.applies_iff_loose hf).mp happ).1 ⟨rfl, State.Warmed39.refl s, rfl⟩ trivial
  refine ⟨n, _, h1, h2, h3, hpost _ _ _ _ _ _ ⟨Cond.after_iff.mpr rfl, Cond.after_iff.mpr (eq_i res_at (Term.int_eval (1)) rfl), trivial⟩ ⟨hq.1, hq.2.1, (hq.2.2.sift fun y hy => Or.inr (N y hy)).mono (by decide) (by decide)⟩⟩
theorem main_1_1 : Claimed_1_1 := comes_1 fun _ _ _ _ _ _ h hF => ⟨h.1, hF⟩
theorem main_1_2 : Claimed_1_2 := comes_1 fun _ _ _ _ _ _ h hF => ⟨h.2.1, hF⟩
end Jvm.Pilot.@@N@@
namespace Jvm.Pilot.@@N@@
open Jvm Jvm.ClassFile Sem Op Lib Jvm.Free Jvm.Stand Jvm.Pilot.@@N@@.Jvm.D
/-! MADE BY PROGRAM (witnessworld.py) out of the Statement's table words and the real class files: 10 classes; the members and pool entries that the words name. The judged class is class 1, her method 3. -/
namespace start1
open Jvm.ClassFile
def u (s : String) : CpInfo := .utf8 (stringToUtf16 s)
/-- a pool by its gaps: so many unusable entries, then the entry; so many at the end -/
def gap : Nat → List CpInfo → List CpInfo
  | 0, r => r
  | n + 1, r => .unusable :: gap n r
def poolList (es : List (Nat × CpInfo)) (last : Nat) : List CpInfo := es.foldr (fun e r => gap e.1 (e.2 :: r)) (gap last [])
def pool (es : List (Nat × CpInfo)) (last : Nat) : Array CpInfo := ⟨poolList es last⟩
def fileOf (pool : Array CpInfo) (this : Nat) (attrs : Array Attribute := #[]) (ms : Array MethodInfo := #[]) (fl : Nat := 33) (sup : Nat := 0) (ifs : Array Nat := #[]) (fds : Array FieldInfo := #[]) : ClassFile where
  minorVersion := 0
  majorVersion := 65
  constantPool := pool
  accessFlags := fl
  thisClass := this
  superClass := sup
  interfaces := ifs
  fields := fds
  methods := ms
  attributes := attrs
def plain (name : String) (sup : Option ClassId) : Class where
  name := name
  kind := .ordinary
  loader := none
  accessFlags := 33
  super := sup
  interfaces := #[]
  cf := none
  fields := #[]
  methods := #[]
  instanceTypes := #[]
  staticTypes := #[]
  resolved := #[]
  callSites := []
  init := .initialized
  statics := none
  mirror := none

def pool0 : Array CpInfo := pool [(5, u "<init>"), (0, u "()V"), (1, .class_ 10), (1, u "java/lang/Object")] 113

def k0m0 : Method := { name := "<init>", desc := "()V", sig := { parameters := [], returnType := none }, accessFlags := 1, code := none }
/-- java/lang/Object -/
def k0 : Class := { plain "java/lang/Object" none with
  accessFlags := 33
  interfaces := #[]
  cf := some (fileOf pool0 8 #[] #[{ accessFlags := 1, nameIndex := 5, descriptorIndex := 6, attributes := #[] }] 33 0 #[] #[])
  fields := #[]
  methods := #[k0m0]
  instanceTypes := #[]
  staticTypes := #[]
  resolved := Array.replicate 124 none
  statics := none }

def pool1 : Array CpInfo := pool [(2, .class_ 4), (1, u "java/lang/Object"), (0, u "<init>"), (0, u "()V"), (0, .long 7), (1, .long 2147483647), (1, .methodref 12 13), (0, .class_ 14), (0, .nameAndType 15 16), (0, u "com/example/word_odds/wordodds/odds/OddsWordProbabilityPinLaw"), (0, u "pick"), (0, u "(JII)J"), (0, .methodref 18 19), (0, .class_ 20), (0, .nameAndType 21 22), (0, u "com/example/word_odds/wordodds/odds/Odds"), (0, u "wordProbability"), (0, u "(JJJJ)D"), (0, .long 2), (1, .long 5), (1, .double 4600877379321698714), (1, .double 4607092346807469998), (1, .double 4576918229304087675), (1, .methodref 12 34), (0, .nameAndType 35 36), (0, u "compare"), (0, u "(JJJJ)I"), (0, .double 4602678819172646912), (4, u "law"), (0, u "(JJJJI)Z")] 2

def k1m0 : Method := { name := "<init>", desc := "()V", sig := { parameters := [], returnType := none }, accessFlags := 1, code := none }
def k1c1 : Code := { maxStack := 4, maxLocals := 4, code := method_2_code, exceptionTable := #[], attributes := #[] }
def k1m1 : Method := { name := "pick", desc := "(JII)J", sig := { parameters := [.long, .int, .int], returnType := some .long }, accessFlags := 10, code := some k1c1 }
def k1c2 : Code := { maxStack := 4, maxLocals := 14, code := method_3_code, exceptionTable := #[], attributes := #[] }
def k1m2 : Method := { name := "compare", desc := "(JJJJ)I", sig := { parameters := [.long, .long, .long, .long], returnType := some .int }, accessFlags := 10, code := some k1c2 }
def k1c3 : Code := { maxStack := 8, maxLocals := 22, code := code, exceptionTable := #[], attributes := #[] }
def k1m3 : Method := { name := "law", desc := "(JJJJI)Z", sig := { parameters := [.long, .long, .long, .long, .int], returnType := some .boolean }, accessFlags := 9, code := some k1c3 }
/-- com/example/word_odds/wordodds/odds/OddsWordProbabilityPinLaw -/
def k1 : Class := { plain "com/example/word_odds/wordodds/odds/OddsWordProbabilityPinLaw" (some 0) with
  accessFlags := 49
  interfaces := #[]
  cf := some (fileOf pool1 12 #[] #[{ accessFlags := 1, nameIndex := 5, descriptorIndex := 6, attributes := #[] }, { accessFlags := 10, nameIndex := 15, descriptorIndex := 16, attributes := #[] }, { accessFlags := 10, nameIndex := 35, descriptorIndex := 36, attributes := #[] }, { accessFlags := 9, nameIndex := 42, descriptorIndex := 43, attributes := #[] }] 49 2 #[] #[])
  fields := #[]
  methods := #[k1m0, k1m1, k1m2, k1m3]
  instanceTypes := #[]
  staticTypes := #[]
  resolved := Array.replicate 46 none
  statics := none }

def pool2 : Array CpInfo := pool [(2, .class_ 4), (1, u "java/lang/Object"), (0, u "<init>"), (0, u "()V"), (7, .double 4611686018427387904), (1, .methodref 17 18), (0, .class_ 19), (0, .nameAndType 20 21), (0, u "com/example/word_odds/wordodds/odds/Odds"), (0, u "ratio"), (0, u "(DJ)D"), (0, .double 4617315517961601024), (1, .double 4600877379321698714), (1, .double 4576918229304087675), (1, .double 4607092346807469998), (1, .methodref 31 32), (0, .class_ 33), (0, .nameAndType 34 35), (0, u "java/lang/Math"), (0, u "min"), (0, u "(DD)D"), (0, .methodref 31 37), (0, .nameAndType 38 35), (0, u "max"), (22, u "UNKNOWN_WORD"), (0, u "D"), (1, u "MIN_OCCURRENCES"), (0, u "MIN_PROBABILITY"), (0, u "MAX_PROBABILITY"), (2, u "wordProbability"), (0, u "(JJJJ)D")] 22

def k2m0 : Method := { name := "<init>", desc := "()V", sig := { parameters := [], returnType := none }, accessFlags := 2, code := none }
def k2c1 : Code := { maxStack := 6, maxLocals := 18, code := prog_15_method_2_code, exceptionTable := #[], attributes := #[] }
def k2m1 : Method := { name := "wordProbability", desc := "(JJJJ)D", sig := { parameters := [.long, .long, .long, .long], returnType := some .double }, accessFlags := 9, code := some k2c1 }
def k2c2 : Code := { maxStack := 6, maxLocals := 4, code := prog_15_method_3_code, exceptionTable := #[], attributes := #[] }
def k2m2 : Method := { name := "ratio", desc := "(DJ)D", sig := { parameters := [.double, .long], returnType := some .double }, accessFlags := 10, code := some k2c2 }
/-- com/example/word_odds/wordodds/odds/Odds -/
def k2 : Class := { plain "com/example/word_odds/wordodds/odds/Odds" (some 0) with
  accessFlags := 49
  interfaces := #[]
  cf := some (fileOf pool2 17 #[] #[{ accessFlags := 2, nameIndex := 5, descriptorIndex := 6, attributes := #[] }, { accessFlags := 9, nameIndex := 69, descriptorIndex := 70, attributes := #[] }, { accessFlags := 10, nameIndex := 20, descriptorIndex := 21, attributes := #[] }] 49 2 #[] #[{ accessFlags := 26, nameIndex := 61, descriptorIndex := 62, attributes := #[] }, { accessFlags := 26, nameIndex := 64, descriptorIndex := 62, attributes := #[] }, { accessFlags := 26, nameIndex := 65, descriptorIndex := 62, attributes := #[] }, { accessFlags := 26, nameIndex := 66, descriptorIndex := 62, attributes := #[] }])
  fields := #[{ name := "UNKNOWN_WORD", type := .double, accessFlags := 26, slot := 0, constantValue := 0 }, { name := "MIN_OCCURRENCES", type := .double, accessFlags := 26, slot := 1, constantValue := 0 }, { name := "MIN_PROBABILITY", type := .double, accessFlags := 26, slot := 2, constantValue := 0 }, { name := "MAX_PROBABILITY", type := .double, accessFlags := 26, slot := 3, constantValue := 0 }]
  methods := #[k2m0, k2m1, k2m2]
  instanceTypes := #[]
  staticTypes := #[.double, .double, .double, .double]
  resolved := Array.replicate 93 none
  statics := none }

def pool3 : Array CpInfo := pool [(1, .class_ 2), (0, u "java/lang/Math"), (1, .class_ 6), (1, u "java/lang/Object"), (0, u "<init>"), (0, u "()V"), (43, u "(DD)D"), (45, .class_ 100), (1, u "java/lang/Math$RandomNumberGeneratorHolder"), (71, u "negativeZeroFloatBits"), (0, u "J"), (2, u "negativeZeroDoubleBits"), (21, u "max"), (2, u "min"), (43, u "$assertionsDisabled"), (0, u "Z"), (91, u "twoToTheDoubleScaleDown"), (0, u "D"), (4, u "twoToTheDoubleScaleUp"), (9, u "E"), (3, u "PI"), (2, u "TAU"), (2, u "DEGREES_TO_RADIANS"), (0, u "RADIANS_TO_DEGREES")] 94

def k3m0 : Method := { name := "<init>", desc := "()V", sig := { parameters := [], returnType := none }, accessFlags := 2, code := none }
def k3c1 : Code := { maxStack := 4, maxLocals := 4, code := jdk_29_method_68_code, exceptionTable := #[], attributes := #[] }
def k3m1 : Method := { name := "max", desc := "(DD)D", sig := { parameters := [.double, .double], returnType := some .double }, accessFlags := 9, code := some k3c1 }
def k3c2 : Code := { maxStack := 4, maxLocals := 4, code := jdk_29_method_72_code, exceptionTable := #[], attributes := #[] }
def k3m2 : Method := { name := "min", desc := "(DD)D", sig := { parameters := [.double, .double], returnType := some .double }, accessFlags := 9, code := some k3c2 }
/-- java/lang/Math -/
def k3 : Class := { plain "java/lang/Math" (some 0) with
  accessFlags := 49
  interfaces := #[]
  cf := some (fileOf pool3 1 #[.nestMembers #[98]] #[{ accessFlags := 2, nameIndex := 7, descriptorIndex := 8, attributes := #[] }, { accessFlags := 9, nameIndex := 198, descriptorIndex := 52, attributes := #[] }, { accessFlags := 9, nameIndex := 201, descriptorIndex := 52, attributes := #[] }] 49 4 #[] #[{ accessFlags := 25, nameIndex := 354, descriptorIndex := 339, attributes := #[] }, { accessFlags := 25, nameIndex := 358, descriptorIndex := 339, attributes := #[] }, { accessFlags := 25, nameIndex := 361, descriptorIndex := 339, attributes := #[] }, { accessFlags := 26, nameIndex := 364, descriptorIndex := 339, attributes := #[] }, { accessFlags := 26, nameIndex := 365, descriptorIndex := 339, attributes := #[] }, { accessFlags := 26, nameIndex := 172, descriptorIndex := 173, attributes := #[] }, { accessFlags := 26, nameIndex := 176, descriptorIndex := 173, attributes := #[] }, { accessFlags := 8, nameIndex := 344, descriptorIndex := 339, attributes := #[] }, { accessFlags := 8, nameIndex := 338, descriptorIndex := 339, attributes := #[] }, { accessFlags := 4120, nameIndex := 245, descriptorIndex := 246, attributes := #[] }])
  fields := #[{ name := "E", type := .double, accessFlags := 25, slot := 0, constantValue := 0 }, { name := "PI", type := .double, accessFlags := 25, slot := 1, constantValue := 0 }, { name := "TAU", type := .double, accessFlags := 25, slot := 2, constantValue := 0 }, { name := "DEGREES_TO_RADIANS", type := .double, accessFlags := 26, slot := 3, constantValue := 0 }, { name := "RADIANS_TO_DEGREES", type := .double, accessFlags := 26, slot := 4, constantValue := 0 }, { name := "negativeZeroFloatBits", type := .long, accessFlags := 26, slot := 5, constantValue := 0 }, { name := "negativeZeroDoubleBits", type := .long, accessFlags := 26, slot := 6, constantValue := 0 }, { name := "twoToTheDoubleScaleUp", type := .double, accessFlags := 8, slot := 7, constantValue := 0 }, { name := "twoToTheDoubleScaleDown", type := .double, accessFlags := 8, slot := 8, constantValue := 0 }, { name := "$assertionsDisabled", type := .boolean, accessFlags := 4120, slot := 9, constantValue := 0 }]
  methods := #[k3m0, k3m1, k3m2]
  instanceTypes := #[]
  staticTypes := #[.double, .double, .double, .double, .double, .long, .long, .double, .double, .boolean]
  resolved := Array.replicate 460 none
  statics := none }

def pool4 : Array CpInfo := pool [(1, u "java/lang/Cloneable"), (0, .class_ 1), (0, u "java/lang/Object"), (0, .class_ 3)] 3

/-- java/lang/Cloneable -/
def k4 : Class := { plain "java/lang/Cloneable" (some 0) with
  accessFlags := 1537
  interfaces := #[]
  cf := some (fileOf pool4 2 #[] #[] 1537 4 #[] #[])
  fields := #[]
  methods := #[]
  instanceTypes := #[]
  staticTypes := #[]
  resolved := Array.replicate 8 none
  statics := none }

def pool5 : Array CpInfo := pool [(1, u "java/io/Serializable"), (0, .class_ 1), (0, u "java/lang/Object"), (0, .class_ 3)] 3

/-- java/io/Serializable -/
def k5 : Class := { plain "java/io/Serializable" (some 0) with
  accessFlags := 1537
  interfaces := #[]
  cf := some (fileOf pool5 2 #[] #[] 1537 4 #[] #[])
  fields := #[]
  methods := #[]
  instanceTypes := #[]
  staticTypes := #[]
  resolved := Array.replicate 8 none
  statics := none }

/-- the primitive byte -/
def k6 : Class := { plain "byte" none with kind := .primitive 'B', accessFlags := 0x411 }
/-- [B -/
def k7 : Class := { plain "[B" (some 0) with kind := .array 6 .byte, interfaces := #[4, 5], accessFlags := 1041 }

/-- the primitive int -/
def k8 : Class := { plain "int" none with kind := .primitive 'I', accessFlags := 0x411 }
/-- [I -/
def k9 : Class := { plain "[I" (some 0) with kind := .array 8 .int, interfaces := #[4, 5], accessFlags := 1041 }

def heap : Heap := #[]
def classes : Array Class := #[k0, k1, k2, k3, k4, k5, k6, k7, k8, k9]
def interned : List (Array UInt16 × Addr) := []
def slotsUsed : Nat := 0
def theMethod : MethodId := ⟨1, 3⟩
def args0 : Array Value := #[.long 5, .long 3, .long 9, .long 11, .int 0]
def aboutOver (below : List Frame) : State where
  vm := { classes := classes, interned := interned.toArray }
  heap := heap
  slotsUsed := slotsUsed
  threads := #[{ frames := .invoking theMethod args0 :: below }]
def below0 : List Frame := [.native { method := ⟨0, 0⟩, args := #[] }]
def about1 : State := aboutOver below0
def p0 : Program := .bare "" "" ""
def e0 : Env := launch0.env 0 0 0
theorem w_frames : about1.frames = Frame.invoking theMethod args0 :: below0 := rfl
set_option maxRecDepth 65536 in
theorem w_args : argsFit about1.vm theMethod args0 = true := by decide +kernel
set_option maxRecDepth 65536 in
theorem w_heap : heapFits about1 = true := by decide +kernel
set_option maxRecDepth 65536 in
theorem w_runnable : about1.curStatus? = some .runnable := by decide +kernel
set_option maxRecDepth 65536 in
theorem w_alone : about1.alone = true := by decide +kernel
set_option maxRecDepth 65536 in
theorem w_named : about1.methodNamed? x = some theMethod := by decide +kernel
set_option maxRecDepth 65536 in
theorem w_hears : about1.hears theMethod below0 = true := by decide +kernel
set_option maxRecDepth 65536 in
theorem w_ripe : about1.ripe theMethod args0 below0 = true := by decide +kernel
theorem w_running : about1.status = .running := rfl
set_option maxRecDepth 65536 in
theorem w_room : about1.hasRoom e0.platform room_1 = true :=
  launch0.hasRoom_least _ room_1 (by decide +kernel) (by decide +kernel) (by decide +kernel) (by decide +kernel) (by decide +kernel) (by decide +kernel)
theorem allAtoms_all (ts : List Jvm.Cond) (a : Array Jvm.Value) (st : Jvm.State) : (allAtoms ts).before a st = ts.all (fun c => c.before a st) := by
  induction ts with
  | nil => rfl
  | cons c t ih =>
    show (Jvm.Cond.and c (allAtoms t)).before a st = _
    rw [Jvm.Cond.before_and, ih, List.all_cons]
def words1 : List Jvm.Cond := Jvm.Cond.code x code maxLocals ret :: tables_1
/-- a 'code' word, met by the world's own term for the bytes: nothing is compared byte by byte -/
theorem code_word {y : MethodName} {bytes : ByteArray} {mx : Nat} {rt : Option FieldType} {a : Array Value} {s : State} {m : MethodId} {meth : Method} {c : Code} (h1 : s.methodNamed? y = some m) (h2 : s.vm.method? m = some meth) (h3 : meth.code = some c) (h4 : c.code = bytes)
    (h5 : (c.maxLocals == mx && c.exceptionTable.isEmpty && decide (c.maxStack ≤ mostOperands) && decide (meth.sig.returnType = rt) && !meth.locks && decide (parseMethodDescriptor y.desc = some meth.sig)) = true) : (Jvm.Cond.code y bytes mx rt).before a s = true := by
  simp only [Bool.and_eq_true, beq_iff_eq, Bool.not_eq_true', decide_eq_true_eq] at h5
  obtain ⟨⟨⟨⟨⟨g1, g2⟩, g3⟩, g4⟩, g5⟩, g6⟩ := h5
  simp [Cond.before, Cond.holds, Cond.value, h1, h2, h3, h4, g1, g2, g3, g4, g5, g6]
def isCode : Jvm.Cond → Bool
  | .code _ _ _ _ => true
  | _ => false
theorem all_split {L : List Jvm.Cond} {P : Jvm.Cond → Bool} (h1 : L.all (fun c => isCode c || P c) = true) (h2 : ∀ c ∈ L.filter isCode, P c = true) : L.all P = true := by
  refine List.all_eq_true.mpr fun c hc => ?_
  have h := List.all_eq_true.mp h1 c hc
  rcases Bool.eq_false_or_eq_true (isCode c) with hi | hi
  · exact h2 c (List.mem_filter.mpr ⟨hc, hi⟩)
  · simpa [hi] using h
set_option maxRecDepth 65536 in
theorem w_c0 : (Jvm.Cond.code x code maxLocals ret).before args0 about1 = true := code_word (m := ⟨1, 3⟩) (meth := k1m3) (c := k1c3) (by decide +kernel) rfl rfl rfl (by decide +kernel)
set_option maxRecDepth 65536 in
theorem w_c1 : (Jvm.Cond.code ({ cls := "com/example/word_odds/wordodds/odds/OddsWordProbabilityPinLaw", name := "pick", desc := "(JII)J" } : Jvm.MethodName) method_2_code (4 : Nat) (Option.some Jvm.ClassFile.FieldType.long)).before args0 about1 = true := code_word (m := ⟨1, 1⟩) (meth := k1m1) (c := k1c1) (by decide +kernel) rfl rfl rfl (by decide +kernel)
set_option maxRecDepth 65536 in
theorem w_c2 : (Jvm.Cond.code ({ cls := "com/example/word_odds/wordodds/odds/Odds", name := "wordProbability", desc := "(JJJJ)D" } : Jvm.MethodName) prog_15_method_2_code (18 : Nat) (Option.some Jvm.ClassFile.FieldType.double)).before args0 about1 = true := code_word (m := ⟨2, 1⟩) (meth := k2m1) (c := k2c1) (by decide +kernel) rfl rfl rfl (by decide +kernel)
set_option maxRecDepth 65536 in
theorem w_c3 : (Jvm.Cond.code ({ cls := "com/example/word_odds/wordodds/odds/Odds", name := "ratio", desc := "(DJ)D" } : Jvm.MethodName) prog_15_method_3_code (4 : Nat) (Option.some Jvm.ClassFile.FieldType.double)).before args0 about1 = true := code_word (m := ⟨2, 2⟩) (meth := k2m2) (c := k2c2) (by decide +kernel) rfl rfl rfl (by decide +kernel)
set_option maxRecDepth 65536 in
theorem w_c4 : (Jvm.Cond.code ({ cls := "java/lang/Math", name := "min", desc := "(DD)D" } : Jvm.MethodName) jdk_29_method_72_code (4 : Nat) (Option.some Jvm.ClassFile.FieldType.double)).before args0 about1 = true := code_word (m := ⟨3, 2⟩) (meth := k3m2) (c := k3c2) (by decide +kernel) rfl rfl rfl (by decide +kernel)
set_option maxRecDepth 65536 in
theorem w_c5 : (Jvm.Cond.code ({ cls := "java/lang/Math", name := "max", desc := "(DD)D" } : Jvm.MethodName) jdk_29_method_68_code (4 : Nat) (Option.some Jvm.ClassFile.FieldType.double)).before args0 about1 = true := code_word (m := ⟨3, 1⟩) (meth := k3m1) (c := k3c1) (by decide +kernel) rfl rfl rfl (by decide +kernel)
set_option maxRecDepth 65536 in
theorem w_c6 : (Jvm.Cond.code ({ cls := "com/example/word_odds/wordodds/odds/OddsWordProbabilityPinLaw", name := "compare", desc := "(JJJJ)I" } : Jvm.MethodName) method_3_code (14 : Nat) (Option.some Jvm.ClassFile.FieldType.int)).before args0 about1 = true := code_word (m := ⟨1, 2⟩) (meth := k1m2) (c := k1c2) (by decide +kernel) rfl rfl rfl (by decide +kernel)
def codes1 : List Jvm.Cond := [Jvm.Cond.code x code maxLocals ret, Jvm.Cond.code ({ cls := "com/example/word_odds/wordodds/odds/OddsWordProbabilityPinLaw", name := "pick", desc := "(JII)J" } : Jvm.MethodName) method_2_code (4 : Nat) (Option.some Jvm.ClassFile.FieldType.long), Jvm.Cond.code ({ cls := "com/example/word_odds/wordodds/odds/Odds", name := "wordProbability", desc := "(JJJJ)D" } : Jvm.MethodName) prog_15_method_2_code (18 : Nat) (Option.some Jvm.ClassFile.FieldType.double), Jvm.Cond.code ({ cls := "com/example/word_odds/wordodds/odds/Odds", name := "ratio", desc := "(DJ)D" } : Jvm.MethodName) prog_15_method_3_code (4 : Nat) (Option.some Jvm.ClassFile.FieldType.double), Jvm.Cond.code ({ cls := "java/lang/Math", name := "min", desc := "(DD)D" } : Jvm.MethodName) jdk_29_method_72_code (4 : Nat) (Option.some Jvm.ClassFile.FieldType.double), Jvm.Cond.code ({ cls := "java/lang/Math", name := "max", desc := "(DD)D" } : Jvm.MethodName) jdk_29_method_68_code (4 : Nat) (Option.some Jvm.ClassFile.FieldType.double), Jvm.Cond.code ({ cls := "com/example/word_odds/wordodds/odds/OddsWordProbabilityPinLaw", name := "compare", desc := "(JJJJ)I" } : Jvm.MethodName) method_3_code (14 : Nat) (Option.some Jvm.ClassFile.FieldType.int)]
set_option maxRecDepth 65536 in
theorem codes_eq : words1.filter isCode = codes1 := rfl
theorem w_codes : ∀ c ∈ words1.filter isCode, c.before args0 about1 = true := by
  rw [codes_eq]
  intro c hc
  simp only [codes1, List.mem_cons, List.not_mem_nil, or_false] at hc
  rcases hc with rfl | rfl | rfl | rfl | rfl | rfl | rfl
  · exact w_c0
  · exact w_c1
  · exact w_c2
  · exact w_c3
  · exact w_c4
  · exact w_c5
  · exact w_c6
set_option maxRecDepth 65536 in
theorem w_t1 : (words1.take 24).all (fun c => isCode c || c.before args0 about1) = true := by decide +kernel
set_option maxRecDepth 65536 in
theorem w_t2 : (words1.drop 24).all (fun c => isCode c || c.before args0 about1) = true := by decide +kernel
theorem w_tables : (allAtoms (Jvm.Cond.code x code maxLocals ret :: tables_1)).before args0 about1 = true := by
  rw [allAtoms_all]
  show words1.all (fun c => c.before args0 about1) = true
  refine all_split ?_ w_codes
  rw [← List.take_append_drop 24 words1, List.all_append, w_t1, w_t2]
  rfl
set_option maxRecDepth 65536 in
theorem w_case : (Jvm.Cond.and given_1 narrow_1).before args0 about1 = true := by decide +kernel
theorem w_applies : (headSpec (Jvm.Cond.code x code maxLocals ret :: tables_1) room_1).applies x e0.platform about1 = true :=
  (Spec.applies_iff w_frames).mpr ⟨w_running, w_runnable, w_alone, w_named, w_hears, w_ripe, w_room, w_tables⟩
theorem atStart : AtStart classFile x code maxLocals ret World_1 tables_1 room_1 Calls_1 rest_1 Pre_1 launch0 p0 e0 about1 theMethod args0 below0 :=
  ⟨lists_1, trivial, launch0.admits_env _ _ _, launch0.least_env, fairChoices_fair.cas, fairChoices_fair.clock, w_frames, w_args, w_heap, w_applies, trivial, trivial, w_case⟩
end start1
theorem witness_1 : WitnessClaimed_1 := ⟨start1.p0, start1.e0, start1.about1, start1.theMethod, start1.args0, start1.below0, start1.atStart⟩
end Jvm.Pilot.@@N@@
