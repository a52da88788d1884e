import JvmDerived
import JvmDerived.Pilot.@@N@@Statement
import JvmDerived.Pilot.@@N@@Code
set_option linter.unusedVariables false
set_option linter.unusedSimpArgs false
@@BLOCK:NumsL.lean.txt@@
namespace Jvm.RoadKit
open Sem ClassFile Op Lib Jvm.Stand Jvm.Free Jvm.LawKit
section OwnRuns
variable {p : Program} {l : Launch} {e : Env} {R : Room} {s : State} {m : MethodId} {args : Array Value} {below : List Frame} {meth : Method} {c : Code} {T : State} {locs : List Loc} {cells slots : Nat}
/-- from U the invocation comes to its end, and there Q holds -/
def Runs (p : Program) (e : Env) (below : List Frame) (Q : Outcome → State → Prop) (U : State) : Prop :=
  ∃ s₂ o, Steps p.tables e below U s₂ ∧ s₂.status = .running ∧ Ended s₂ below o ∧ Q o s₂
def QE (s : State) (Q : Option Value → Heap → List Loc → Prop) (C S : Nat) : Outcome → State → Prop :=
  fun o U' => ∃ v L, o = .returned v ∧ Q v U'.heap L ∧ FrameEnd s o U' L C S
theorem Runs.by {Q : Outcome → State → Prop} {U U' : State} (h : ∀ t, Steps p.tables e below U' t → Steps p.tables e below U t) (k : Runs p e below Q U') : Runs p e below Q U := by
  obtain ⟨s2, o, h1, h2⟩ := k
  exact ⟨s2, o, h _ h1, h2⟩
theorem Runs.ret {Q : Option Value → Heap → List Loc → Prop} {C S : Nat} {t : FieldType} {w : Value} {i : Instr} {pc : Nat} {Ls : Array Slot} {rest : List Value}
    (X : Stand p l e R s m args below meth c T locs cells slots) (hx : p.tables.exec = Jvm.exec) (hret : meth.sig.returnType = some t) (hlk : meth.locks = false)
    (hi : (i = .ireturn ∧ (t = .int ∨ t = .boolean ∨ t = .byte ∨ t = .char ∨ t = .short) ∧ ∃ z, w = .int z) ∨ (i = .lreturn ∧ t = .long ∧ ∃ z, w = .long z) ∨ (i = .dreturn ∧ t = .double ∧ ∃ z, w = .double z) ∨ (i = .freturn ∧ t = .float ∧ ∃ z, w = .float z) ∨ (i = .areturn ∧ t.isReference = true ∧ w.isRef = true))
    (hn : narrow t w = w) (hd : decode c.code pc = .ok (i, 1)) (hC : cells ≤ C) (hS : slots ≤ S) (hQ : Q (some w) T.heap locs) : Runs p e below (QE s Q C S) (T.setTop (mkF m pc Ls (w :: rest))) := by
  obtain ⟨fs, hr, hrun, hended, hW, hsame⟩ := X.leave (v := some w) (fun h => by rw [hret] at h; cases h) hlk
  exact ⟨_, _, retOut X hx hret hn hi hd hr, hrun, hended, _, _, rfl, hQ, ⟨_, rfl⟩, hW, hsame.mono hC hS⟩
theorem Runs.retV {Q : Option Value → Heap → List Loc → Prop} {C S : Nat} {pc : Nat} {Ls : Array Slot}
    (X : Stand p l e R s m args below meth c T locs cells slots) (hx : p.tables.exec = Jvm.exec) (hret : meth.sig.returnType = none) (hlk : meth.locks = false)
    (hd : decode c.code pc = .ok (.return_, 1)) (hC : cells ≤ C) (hS : slots ≤ S) (hQ : Q none T.heap locs) : Runs p e below (QE s Q C S) (T.setTop (mkF m pc Ls [])) := by
  obtain ⟨fs, hr, hrun, hended, hW, hsame⟩ := X.leave (v := none) (fun _ => rfl) hlk
  exact ⟨_, _, X.returnOut hx hret hd hr, hrun, hended, _, _, rfl, hQ, ⟨_, rfl⟩, hW, hsame.mono hC hS⟩
theorem own_narrow_b (x : Int32) (h : x = 0 ∨ x = 1) : narrow .boolean (.int x) = .int x := by rcases h with rfl | rfl <;> rfl
end OwnRuns
section OwnWide
variable {p : Program} {l : Launch} {e : Env} {R : Room} {s Z : State} {m : MethodId} {args : Array Value} {below : List Frame} {meth : Method} {c : Code} {T : State} {locs : List Loc} {cells slots : Nat} {vm1 : Vm} {EL : List (String × Nat)} {a0 : Array Value} {h : Heap}
/-- as QE, for a body that may load String constants -/
def QEW (Z : State) (EL : List (String × Nat)) (s : State) (Q : Option Value → Heap → List Loc → Prop) (C S : Nat) : Outcome → State → Prop :=
  fun o U' => ∃ v L, o = .returned v ∧ Q v U'.heap L ∧ CHr Z EL s.vm s.heap U'.vm U'.heap ∧ ReturnedEndW s o U' L C S
theorem own_monoW {t : State} {o : Outcome} {L : List Loc} {k n k' n' : Nat} (h : ReturnedEndW s o t L k n) (hk : k ≤ k') (hn : n ≤ n') : ReturnedEndW s o t L k' n' := ⟨h.1, h.2.1, h.2.2.1, h.2.2.2.mono hk hn⟩
theorem Runs.retW {Q : Option Value → Heap → List Loc → Prop} {C S n : Nat} {t : FieldType} {w : Value} {i : Instr} {pc : Nat} {Ls : Array Slot} {rest : List Value}
    (X : Stand p l e R (s.setVm vm1) m args below meth c T locs cells slots) (hx : p.tables.exec = Jvm.exec) (hret : meth.sig.returnType = some t) (hlk : meth.locks = false) (eT : T.heap = h) (hS : s.Since vm1 n) (hk : n ≤ h.size) (hZ : Z.Warmed39 vm1) (hEL : EW Z a0 EL) (hC : CHr Z EL s.vm s.heap vm1 h)
    (hi : (i = .ireturn ∧ (t = .int ∨ t = .boolean ∨ t = .byte ∨ t = .char ∨ t = .short) ∧ ∃ z, w = .int z) ∨ (i = .lreturn ∧ t = .long ∧ ∃ z, w = .long z) ∨ (i = .dreturn ∧ t = .double ∧ ∃ z, w = .double z) ∨ (i = .freturn ∧ t = .float ∧ ∃ z, w = .float z) ∨ (i = .areturn ∧ t.isReference = true ∧ w.isRef = true))
    (hn : narrow t w = w) (hd : decode c.code pc = .ok (i, 1)) (hCc : cells ≤ C) (hSs : slots ≤ S) (hQ : Q (some w) h locs) : Runs p e below (QEW Z EL s Q C S) (T.setTop (mkF m pc Ls (w :: rest))) := by
  subst eT
  obtain ⟨fs, hr, hrun, hended, hW⟩ := X.leaveW hS hk (v := some w) (fun h => by rw [hret] at h; cases h) hlk
  have hA := hC.trans (CHv.at X hZ hEL hC.1)
  exact ⟨_, _, retOut X hx hret hn hi hd hr, hrun, hended, _, _, rfl, hQ, hA, own_monoW hW hCc hSs⟩
theorem Runs.retVW {Q : Option Value → Heap → List Loc → Prop} {C S n : Nat} {pc : Nat} {Ls : Array Slot}
    (X : Stand p l e R (s.setVm vm1) m args below meth c T locs cells slots) (hx : p.tables.exec = Jvm.exec) (hret : meth.sig.returnType = none) (hlk : meth.locks = false) (eT : T.heap = h) (hS : s.Since vm1 n) (hk : n ≤ h.size) (hZ : Z.Warmed39 vm1) (hEL : EW Z a0 EL) (hC : CHr Z EL s.vm s.heap vm1 h)
    (hd : decode c.code pc = .ok (.return_, 1)) (hCc : cells ≤ C) (hSs : slots ≤ S) (hQ : Q none h locs) : Runs p e below (QEW Z EL s Q C S) (T.setTop (mkF m pc Ls [])) := by
  subst eT
  obtain ⟨fs, hr, hrun, hended, hW⟩ := X.leaveW hS hk (v := none) (fun _ => rfl) hlk
  have hA := hC.trans (CHv.at X hZ hEL hC.1)
  exact ⟨_, _, X.returnOut hx hret hd hr, hrun, hended, _, _, rfl, hQ, hA, own_monoW hW hCc hSs⟩
/-- a callee that may load String constants and writes the object at x, of which is known that no constant books it -/
theorem own_backSH {y : MethodName} {bytes : ByteArray} {maxL : Nat} {ret : Option FieldType} {rm : Room} {len W : Nat} {as' : Array Value} {Q : Option Value → Heap → List Loc → Prop} {vm0 : Vm} {x : Addr}
    (hM : MetFree l y (head1 [Cond.code y bytes maxL ret] rm) (fun a U => a = as' ∧ Z.Warmed39 U.vm ∧ U.heap = h ∧ CHv Z EL U.vm h ∧ Safe Z EL U.vm h x) (fun _ _ _ _ _ => True) (fun _ U o U' => ∃ v L, o = .returned v ∧ Q v U'.heap L ∧ CHr Z EL U.vm U.heap U'.vm U'.heap ∧ ReturnedEndW U o U' L rm.cells rm.slots))
    (hZ : Z.Warmed39 vm0) (wc : (Cond.code y bytes maxL ret).before a0 Z = true) (wz : (Cond.initialized y.cls).before a0 Z = true) (hf : rm.frames + 1 ≤ R.frames) (hl : W + (maxL + 11) + rm.locals ≤ R.locals) (hEL : EW Z a0 EL) (H : CHv Z EL vm0 h) (hxl : x < h.size) (Sx : Safe Z EL vm0 h x) :
    BackS l R p e below (s.setVm vm0) args y len W (fun A a => a = as' ∧ A.U.heap = h ∧ A.cells + rm.cells ≤ R.cells ∧ A.slots + rm.slots ≤ R.slots)
      (fun A _ v B => ∃ L, Q v B.U.heap L ∧ B.locs = A.locs ++ L ∧ B.cells = A.cells + rm.cells ∧ B.slots = A.slots + rm.slots ∧ CHr Z EL vm0 h B.U.vm B.U.heap) := by
  refine BackS.of_freeW (bytes := bytes) (maxL := maxL) (ret := ret) (E := fun _ first o t L k n => k = rm.cells ∧ n = rm.slots ∧ (∃ v, o = .returned v ∧ Q v t.heap L) ∧ CHr Z EL first.vm first.heap t.vm t.heap) hM hf hl ?_ ?_ (fun _ _ _ _ _ _ _ _ _ => trivial) ?_ ?_
  · intro m meth c A a Y hp
    have hU : Z.Warmed39 A.U.vm := wtrans (s := s.setVm vm0) hZ Y.warmed
    exact ⟨by show (Cond.and _ .tt).before a A.U = true; rw [Cond.before_and, mv hU wc]; rfl, mv hU wc, mv hU wz, hp.2.2.1, hp.2.2.2⟩
  · intro m meth c A a g mk Y hp
    have hr := CHv.at Y hZ hEL H
    exact ⟨hp.1, wtrans (s := s.setVm vm0) hZ Y.warmed, hp.2.1, hr.1, hr.safe hxl Sx⟩
  · rintro _ _ _ _ ⟨v, L, h1, h2, h3, h4⟩
    exact ⟨L, _, _, h4, rfl, rfl, ⟨v, h1, h2⟩, h3⟩
  · rintro m meth c A a g mk v t L k n Y hp _ _ ⟨e1, e2, ⟨v', e3, e4⟩, e5⟩
    cases e3; subst e1 e2
    refine ⟨L, e4, rfl, rfl, rfl, (CHv.at Y hZ hEL H).trans ?_⟩
    rw [← hp.2.1]; exact e5
theorem own_safe_arv {x : Addr} {k : ClassId} {ty : FieldType} {z : Int32} {vs : List Value} {d : Value} {vm : Vm} (hal : Z.vm.Alike vm) (V : Arv Z h x k ty z vs d) (ht : ty ≠ .byte) : Safe Z EL vm h x := by
  obtain ⟨c, A, -⟩ := V; exact Safe.arr hal A ht
/-- as QEW, where Q speaks of the machine's tables too -/
def QEX (Z : State) (EL : List (String × Nat)) (s : State) (Q : Option Value → Heap → List Loc → Vm → Prop) (C S : Nat) : Outcome → State → Prop :=
  fun o U' => ∃ v L, o = .returned v ∧ Q v U'.heap L U'.vm ∧ CHr Z EL s.vm s.heap U'.vm U'.heap ∧ ReturnedEndW s o U' L C S
theorem Runs.retX {Q : Option Value → Heap → List Loc → Vm → Prop} {C S n : Nat} {t : FieldType} {w : Value} {i : Instr} {pc : Nat} {Ls : Array Slot} {rest : List Value}
    (X : Stand p l e R (s.setVm vm1) m args below meth c T locs cells slots) (hx : p.tables.exec = Jvm.exec) (hret : meth.sig.returnType = some t) (hlk : meth.locks = false) (eT : T.heap = h) (hS : s.Since vm1 n) (hk : n ≤ h.size) (hZ : Z.Warmed39 vm1) (hEL : EW Z a0 EL) (hC : CHr Z EL s.vm s.heap vm1 h)
    (hi : (i = .ireturn ∧ (t = .int ∨ t = .boolean ∨ t = .byte ∨ t = .char ∨ t = .short) ∧ ∃ z, w = .int z) ∨ (i = .lreturn ∧ t = .long ∧ ∃ z, w = .long z) ∨ (i = .dreturn ∧ t = .double ∧ ∃ z, w = .double z) ∨ (i = .freturn ∧ t = .float ∧ ∃ z, w = .float z) ∨ (i = .areturn ∧ t.isReference = true ∧ w.isRef = true))
    (hn : narrow t w = w) (hd : decode c.code pc = .ok (i, 1)) (hCc : cells ≤ C) (hSs : slots ≤ S) (hQ : Q (some w) h locs T.vm) : Runs p e below (QEX Z EL s Q C S) (T.setTop (mkF m pc Ls (w :: rest))) := by
  subst eT
  obtain ⟨fs, hr, hrun, hended, hW⟩ := X.leaveW hS hk (v := some w) (fun h => by rw [hret] at h; cases h) hlk
  have hA := hC.trans (CHv.at X hZ hEL hC.1)
  exact ⟨_, _, retOut X hx hret hn hi hd hr, hrun, hended, _, _, rfl, hQ, hA, own_monoW hW hCc hSs⟩
/-- a callee that may load String constants, told of the tables (PX) and of one address x that no constant books, and that tells of the tables -/
theorem own_backX {y : MethodName} {bytes : ByteArray} {maxL : Nat} {ret : Option FieldType} {rm : Room} {len W : Nat} {as' : Array Value} {Q : Option Value → Heap → List Loc → Vm → Prop} {vm0 : Vm} {x : Addr} {PX : Vm → Prop}
    (hM : MetFree l y (head1 [Cond.code y bytes maxL ret] rm) (fun a U => a = as' ∧ Z.Warmed39 U.vm ∧ U.heap = h ∧ CHv Z EL U.vm h ∧ Safe Z EL U.vm h x ∧ PX U.vm) (fun _ _ _ _ _ => True) (fun _ U o U' => ∃ v L, o = .returned v ∧ Q v U'.heap L U'.vm ∧ CHr Z EL U.vm U.heap U'.vm U'.heap ∧ ReturnedEndW U o U' L rm.cells rm.slots))
    (hZ : Z.Warmed39 vm0) (wc : (Cond.code y bytes maxL ret).before a0 Z = true) (wz : (Cond.initialized y.cls).before a0 Z = true) (hf : rm.frames + 1 ≤ R.frames) (hl : W + (maxL + 11) + rm.locals ≤ R.locals) (hEL : EW Z a0 EL) (H : CHv Z EL vm0 h) (hxl : x < h.size) (Sx : Safe Z EL vm0 h x) (hPX : ∀ vm', (s.setVm vm0).Warmed39 vm' → PX vm') :
    BackS l R p e below (s.setVm vm0) args y len W (fun A a => a = as' ∧ A.U.heap = h ∧ A.cells + rm.cells ≤ R.cells ∧ A.slots + rm.slots ≤ R.slots)
      (fun A _ v B => ∃ L, Q v B.U.heap L B.U.vm ∧ B.locs = A.locs ++ L ∧ B.cells = A.cells + rm.cells ∧ B.slots = A.slots + rm.slots ∧ CHr Z EL vm0 h B.U.vm B.U.heap) := by
  refine BackS.of_freeW (bytes := bytes) (maxL := maxL) (ret := ret) (E := fun _ first o t L k n => k = rm.cells ∧ n = rm.slots ∧ (∃ v, o = .returned v ∧ Q v t.heap L t.vm) ∧ CHr Z EL first.vm first.heap t.vm t.heap) hM hf hl ?_ ?_ (fun _ _ _ _ _ _ _ _ _ => trivial) ?_ ?_
  · intro m meth c A a Y hp
    have hU : Z.Warmed39 A.U.vm := wtrans (s := s.setVm vm0) hZ Y.warmed
    exact ⟨by show (Cond.and _ .tt).before a A.U = true; rw [Cond.before_and, mv hU wc]; rfl, mv hU wc, mv hU wz, hp.2.2.1, hp.2.2.2⟩
  · intro m meth c A a g mk Y hp
    have hr := CHv.at Y hZ hEL H
    exact ⟨hp.1, wtrans (s := s.setVm vm0) hZ Y.warmed, hp.2.1, hr.1, hr.safe hxl Sx, hPX _ Y.warmed.wide⟩
  · rintro _ _ _ _ ⟨v, L, h1, h2, h3, h4⟩
    exact ⟨L, _, _, h4, rfl, rfl, ⟨v, h1, h2⟩, h3⟩
  · rintro m meth c A a g mk v t L k n Y hp _ _ ⟨e1, e2, ⟨v', e3, e4⟩, e5⟩
    cases e3; subst e1 e2
    refine ⟨L, e4, rfl, rfl, rfl, (CHv.at Y hZ hEL H).trans ?_⟩
    rw [← hp.2.1]; exact e5
theorem own_lstay {vm0 vm1 : Vm} {own : String} {ix : Nat} {a : Addr} (L : Lit (Z.setVm vm0) own ix a) (hW : (s.setVm vm0).Warmed39 vm1) : Lit (Z.setVm vm1) own ix a := Lit.stays (s := s) L hW
/-- a String constant that is booked, its text, and one address that it isn't -/
def own_LS (Z : State) (vm : Vm) (h : Heap) (ln : Addr) (own : String) (ix : Nat) (z : Int32) (vs : List Value) : Prop :=
  ∃ (a b : Addr) (k : ClassId), Lit (Z.setVm vm) own ix a ∧ Exa Z h a "java/lang/String" ∧ Fld Z h a "java/lang/String" "coder" "B" (.int (0 : Int32)) ∧ Fld Z h a "java/lang/String" "value" "[B" (.ref b) ∧ Arv Z h b k .byte z vs (.int 0) ∧ ln ≠ a ∧ ln ≠ b
theorem own_LS.step {vm0 vm1 : Vm} {h' : Heap} {ln : Addr} {own : String} {ix : Nat} {z : Int32} {vs : List Value} (F : own_LS Z vm0 h ln own ix z vs) (hW : (s.setVm vm0).Warmed39 vm1) (K : Keep h h' []) : own_LS Z vm1 h' ln own ix z vs := by
  obtain ⟨a, b, k, L, f1, f2, f3, f4, n1, n2⟩ := F
  exact ⟨a, b, k, own_lstay L hW, f1.keep K, f2.keep K nin0, f3.keep K nin0, f4.keep K nin0, n1, n2⟩
theorem own_LS.wr {vm0 : Vm} {h' : Heap} {ln : Addr} {own : String} {ix : Nat} {z : Int32} {vs : List Value} {sl : Nat} {v : Value} (F : own_LS Z vm0 h ln own ix z vs) (W : Wr h h' ln sl v) : own_LS Z vm0 h' ln own ix z vs := by
  obtain ⟨a, b, k, L, f1, f2, f3, f4, n1, n2⟩ := F
  exact ⟨a, b, k, L, f1.wr W, f2.other W (Or.inl (Ne.symm n1)), f3.other W (Or.inl (Ne.symm n1)), f4.other W (Ne.symm n2), n1, n2⟩
end OwnWide
theorem own_selp {Z s : State} {a0 args : Array Value} {y : MethodName} {n : Nat} (hZ : Z.Warmed39 s.vm) (wi : (Cond.instantiable y.cls n).before a0 Z = true) (wp : (Cond.privateMethod y).before a0 Z = true) (wm : (Cond.instanceMethod y).before a0 Z = true) (hy : y.cls ≠ "java/lang/invoke/MethodHandle" ∧ y.cls ≠ "java/lang/invoke/VarHandle") : (Cond.selects y.cls y y).before args s = true := by
  obtain ⟨c, k, h1, h2, h3, h4, -⟩ := Cond.instantiable_spec (mvT (args := args) hZ wi)
  exact selects_self_of_private h1 h2 (by simp only [Bool.or_eq_false_iff] at h4; exact h4.1) (Cond.privateMethod_at (mvP hZ wp (args := args))) (mvT hZ wm) hy
theorem own_nneg {z : Int32} (h : 0 ≤ z.toInt) : ¬ z < 0 := by
  have e0 : (0 : Int32).toInt = 0 := by decide
  rw [Int32.lt_iff_toInt_lt]; omega
theorem own_cap {z : Int32} {n : Nat} (h : z.toInt ≤ n) : z.toNatClampNeg ≤ n := by show Int.toNat _ ≤ _; omega
section OwnArf
variable {Z : State} {h h' : Heap} {a b : Addr} {k : ClassId} {ty : FieldType} {z j : Int32} {f g : Nat → Value} {v w : Value} {sl : Nat} {ws : List Addr} {c : Cell}
def own_up {α : Type} (f : Nat → α) (n : Nat) (x : α) : Nat → α := fun i => if i = n then x else f i
theorem own_up_same {α : Type} (f : Nat → α) (n : Nat) (x : α) : own_up f n x n = x := by simp [own_up]
theorem own_up_ne {α : Type} (f : Nat → α) {n i : Nat} (x : α) (q : i ≠ n) : own_up f n x i = f i := by simp [own_up, q]
theorem own_up_map {α β : Type} (g : α → β) (w : Nat → α) (n : Nat) (x : α) (j : Nat) : own_up (fun j => g (w j)) n (g x) j = g (own_up w n x j) := by unfold own_up; split <;> rfl
/-- an array: its class, its length, what stands at each place -/
def Arf (Z : State) (h : Heap) (a : Addr) (k : ClassId) (ty : FieldType) (z : Int32) (f : Nat → Value) : Prop :=
  ∃ c : Cell, Arr Z h a c ty ∧ c.cls = k ∧ c.slots.size = z.toNatClampNeg ∧ ¬ z < 0 ∧ ∀ i, i < z.toNatClampNeg → c.slots[i]? = some (f i)
theorem Arf.lt (F : Arf Z h a k ty z f) : a < h.size := by obtain ⟨c, A, -⟩ := F; exact A.lt
theorem Arf.ext (F : Arf Z h a k ty z f) (E : Ext h h') : Arf Z h' a k ty z f := by obtain ⟨c, A, r⟩ := F; exact ⟨c, A.ext E, r⟩
theorem Arf.other (F : Arf Z h b k ty z f) (W : Wr h h' a sl v) (q : b ≠ a) : Arf Z h' b k ty z f := by obtain ⟨c, A, r⟩ := F; exact ⟨c, A.other W q, r⟩
theorem Arf.keep (F : Arf Z h a k ty z f) (K : Keep h h' ws) (q : a ∉ ws) : Arf Z h' a k ty z f := by obtain ⟨c, A, r⟩ := F; exact ⟨c, ⟨K.2.1 a c A.1 q, A.2⟩, r⟩
theorem Arf.cast (F : Arf Z h a k ty z f) (e : ∀ i, i < z.toNatClampNeg → f i = g i) : Arf Z h a k ty z g := by obtain ⟨c, A, r1, r2, r3, H⟩ := F; exact ⟨c, A, r1, r2, r3, fun i hi => by rw [H i hi, e i hi]⟩
theorem Arf.new (A : Arr Z h a (newA k ty z) ty) (q : ¬ z < 0) : Arf Z h a k ty z (fun _ => defaultValue ty) := ⟨_, A, rfl, sz_new _ _ _, q, fun i hi => by simp [newA, hi]⟩
theorem Arf.set {n : Nat} (A : Arr Z h a c ty) (q1 : c.cls = k) (S : c.slots.size = z.toNatClampNeg) (q3 : ¬ z < 0) (H : ∀ i, i < z.toNatClampNeg → c.slots[i]? = some (f i)) (W : Wr h h' a j.toNatClampNeg v) (hj : j.toNatClampNeg = n) : Arf Z h' a k ty z (own_up f n v) := by
  refine ⟨_, A.same W, q1, by rw [sz_set]; exact S, q3, fun i hi => ?_⟩
  rw [hj]
  by_cases u : i = n
  · subst u; simp [Cell.setSlot, own_up, S, hi]
  · have := H i hi; simp only [Cell.setSlot, own_up, u, if_false] at this ⊢
    rw [Array.getElem?_setIfInBounds_ne (Ne.symm u)]; exact this
theorem own_ix {j z : Int32} {n : Nat} (hj : j.toInt = n) (hz : j.toInt < z.toInt) : (¬ j < 0 ∧ j < z) ∧ j.toNatClampNeg = n ∧ n < z.toNatClampNeg := by
  have e0 : (0 : Int32).toInt = 0 := by decide
  refine ⟨⟨by rw [Int32.lt_iff_toInt_lt]; omega, by rw [Int32.lt_iff_toInt_lt]; exact hz⟩, ?_, ?_⟩
  · show Int.toNat _ = _; omega
  · show _ < Int.toNat _; omega
theorem own_cl {z : Int32} {j : Nat} (h : j < z.toNatClampNeg) : (j : Int) < z.toInt := by
  have e : z.toNatClampNeg = z.toInt.toNat := rfl
  omega
end OwnArf
end Jvm.RoadKit
namespace Jvm.Pilot.@@N@@
open Jvm Jvm.ClassFile Sem Op Lib Jvm.Free Jvm.Stand Jvm.LawKit Jvm.RoadKit Bundle Jvm.Pilot.@@N@@.Jvm.D
section
open Jvm.FP.Core
theorem own_zfin {a : UInt64} (ha : DFin a) (h0 : a.toNat < 2 ^ 63) : ∃ c q, val64 a = .fin false c q ∧ Jvm.FP.Core.fits b64 (.fin false c q) ∧ zval b64 (val64 a) = ((zmag b64 (.fin false c q) : Nat) : Int) := by
  obtain ⟨s, c, q, e⟩ := ha
  have hs : s = false := by
    have := sgn_bits (a := a) (by rw [e]; exact Datum.noConfusion)
    rw [e] at this
    have h2 : decide (2 ^ 63 ≤ a.toNat) = false := decide_eq_false (by omega)
    rw [h2] at this; exact this
  subst hs
  exact ⟨c, q, e, e ▸ val64_fits a, by rw [e]; rfl⟩
theorem own_divu {c d : Nat} {q r : Int} (x2 : Jvm.FP.Core.fits b64 (.fin false c q)) (y2 : Jvm.FP.Core.fits b64 (.fin false d r)) : inUnits c (q - r) (2 * b64.qmin - r) = zmag b64 (.fin false c q) * one64 ∧ 2 ^ (b64.qmin - (2 * b64.qmin - r)).toNat * d = zmag b64 (.fin false d r) := by
  have hx1 := x2.2.1
  have hy1 := y2.2.1
  have hq : b64.qmin < 0 := by decide
  constructor
  · rw [← pow_qmin64]
    show c * _ = c * _ * _
    rw [Nat.mul_assoc, ← Nat.pow_add]; congr 2; omega
  · show _ = d * _
    rw [Nat.mul_comm]; congr 2; omega
theorem own_div_pre {a b : UInt64} (ha : DFin a) (ha0 : a.toNat < 2 ^ 63) (hfb : DFin b) (hb0 : b.toNat < 2 ^ 63) (hbz : 0 < zval b64 (val64 b)) :
    ∃ c q d r, 0 < d ∧ Jvm.FP.Core.fits b64 (.fin false c q) ∧ Jvm.FP.Core.fits b64 (.fin false d r) ∧ zval b64 (val64 a) = ((zmag b64 (.fin false c q) : Nat) : Int) ∧ zval b64 (val64 b) = ((zmag b64 (.fin false d r) : Nat) : Int) ∧ val64 (ddiv a b) = roundRatio b64 false c d (q - r) := by
  obtain ⟨c, q, e1, f1, z1⟩ := own_zfin ha ha0
  obtain ⟨d, r, e2, f2, z2⟩ := own_zfin hfb hb0
  have hd0 : d ≠ 0 := by
    rintro rfl
    have h1 : zmag b64 (.fin false 0 r) = 0 := Nat.zero_mul _
    omega
  refine ⟨c, q, d, r, by omega, f1, f2, z1, z2, ?_⟩
  rw [val64_ddiv, e1, e2]
  simp [quotient, hd0]
theorem own_div_le {a b V : UInt64} (ha : DFin a) (ha0 : a.toNat < 2 ^ 63) (hfb : DFin b) (hb0 : b.toNat < 2 ^ 63) (hbz : 0 < zval b64 (val64 b)) (hV : val64 V ≠ .nan) (h0V : V.toNat < 2 ^ 63)
    (h : zval b64 (val64 a) * (one64 : Int) ≤ zval b64 (val64 V) * zval b64 (val64 b)) : zval b64 (val64 (ddiv a b)) ≤ zval b64 (val64 V) := by
  obtain ⟨c, q, d, r, hd, f1, f2, z1, z2, e⟩ := own_div_pre ha ha0 hfb hb0 hbz
  obtain ⟨u1, u2⟩ := own_divu f1 f2
  have hq : b64.qmin < 0 := by decide
  have hsV : sgn (val64 V) = false := by rw [sgn_bits hV]; exact decide_eq_false (by omega)
  have zV : zval b64 (val64 V) = ((zmag b64 (val64 V) : Nat) : Int) := by unfold zval; rw [hsV]; rfl
  have hx1 := f1.2.1
  have hy1 := f2.2.1
  have k := zmag_roundRatio_le good_b64 (s := false) (A := c) (B := d) (e := q - r) (e0 := 2 * b64.qmin - r) (V := val64 V) hd (val64_fits V) hV (by omega) (by omega) (by
    rw [u1, Nat.mul_assoc, u2]
    rw [z1, z2, zV] at h
    exact_mod_cast h)
  rw [e, zV]
  unfold zval
  rw [sgn_roundRatio]
  simpa [signed] using k
theorem own_div_ge {a b V : UInt64} (ha : DFin a) (ha0 : a.toNat < 2 ^ 63) (hfb : DFin b) (hb0 : b.toNat < 2 ^ 63) (hbz : 0 < zval b64 (val64 b)) (hV : val64 V ≠ .nan) (h0V : V.toNat < 2 ^ 63)
    (h : zval b64 (val64 V) * zval b64 (val64 b) ≤ zval b64 (val64 a) * (one64 : Int)) : zval b64 (val64 V) ≤ zval b64 (val64 (ddiv a b)) := by
  obtain ⟨c, q, d, r, hd, f1, f2, z1, z2, e⟩ := own_div_pre ha ha0 hfb hb0 hbz
  obtain ⟨u1, u2⟩ := own_divu f1 f2
  have hq : b64.qmin < 0 := by decide
  have hsV : sgn (val64 V) = false := by rw [sgn_bits hV]; exact decide_eq_false (by omega)
  have zV : zval b64 (val64 V) = ((zmag b64 (val64 V) : Nat) : Int) := by unfold zval; rw [hsV]; rfl
  have hx1 := f1.2.1
  have hy1 := f2.2.1
  have k := zmag_roundRatio_ge good_b64 (s := false) (A := c) (B := d) (e := q - r) (e0 := 2 * b64.qmin - r) (V := val64 V) hd (val64_fits V) (by omega) (by omega) (by
    rw [u1, Nat.mul_assoc, u2]
    rw [z1, z2, zV] at h
    exact_mod_cast h)
  rw [e, zV]
  unfold zval
  rw [sgn_roundRatio]
  simpa [signed] using k
end
section
open Jvm.FP.Core
theorem own_l1 : FP.l2d 1 = FP.dconst1 := by decide +kernel
theorem own_l0 : FP.l2d 0 = FP.dconst0 := by decide +kernel
theorem own_ddiv1 (a : Int64) : FP.ddiv (FP.l2d a) (FP.l2d 1) = FP.l2d a := by
  rw [own_l1]; exact ddiv_one (l2d_fin a).ne_nan
/-- a count: 0 up to 2^31 - 1 -/
def own_ct (a : Int64) : Prop := 0 ≤ a.toInt ∧ a.toInt < 2147483648
theorem own_ct53 {a : Int64} (h : own_ct a) : B53 a := ⟨by have := h.1; omega, by have := h.2; omega⟩
theorem own_cmp0 {a : Int64} (h : own_ct a) (o : CmpOp) : cmpValue (FP.dcmp (FP.l2d a) FP.dconst0) o = lcmpW a 0 := by
  rw [← own_l0]; exact dcmpV_w (own_ct53 h) ⟨by decide, by decide⟩ o
theorem own_pos {a : Int64} (h : own_ct a) : (FP.l2d a).toNat < 2 ^ 63 := by
  have q := l2d_abs (a := a) (fun q => by have := h.1; rw [Int64.lt_iff_toInt_lt] at q; have e : (0 : Int64).toInt = 0 := by decide
                                          omega)
  have m := mask_toNat (l2d a)
  rw [q] at m
  show (l2d a).toNat < _
  rw [m]; exact Nat.mod_lt _ (by decide)
theorem own_zv {a : Int64} (h : own_ct a) : zval b64 (val64 (FP.l2d a)) = a.toInt * (one64 : Int) := DInt_zval (l2d_int (by have := h.1; have := h.2; omega))
theorem own_one64 : 0 < (one64 : Int) := by exact_mod_cast one64_pos
def own_E : Nat := 2 ^ 1021
theorem own_one_eq : (one64 : Int) = 9007199254740992 * (own_E : Int) := by decide +kernel
theorem own_v9 : zval b64 (val64 4606281698874543309) = 8106479329266893 * (own_E : Int) := by decide +kernel
theorem own_v9' : zval b64 (val64 4606281698874543310) = 8106479329266894 * (own_E : Int) := by decide +kernel
theorem own_Epos : 0 < (own_E : Int) := by decide +kernel
theorem own_lin_le {s u a b E : Int} (hE : 0 < E) (ha : 0 ≤ a) (k : s * a ≤ b * u) : s * (a * E) * (a * E) ≤ b * E * (u * (a * E)) := by
  have e1 : s * (a * E) * (a * E) = (s * a) * (a * (E * E)) := by ac_rfl
  have e2 : b * E * (u * (a * E)) = (b * u) * (a * (E * E)) := by ac_rfl
  rw [e1, e2]
  exact Int.mul_le_mul_of_nonneg_right k (Int.mul_nonneg ha (Int.mul_nonneg (Int.le_of_lt hE) (Int.le_of_lt hE)))
theorem own_lin_ge {s u a b E : Int} (hE : 0 < E) (ha : 0 ≤ a) (k : b * u ≤ s * a) : b * E * (u * (a * E)) ≤ s * (a * E) * (a * E) := by
  have e1 : s * (a * E) * (a * E) = (s * a) * (a * (E * E)) := by ac_rfl
  have e2 : b * E * (u * (a * E)) = (b * u) * (a * (E * E)) := by ac_rfl
  rw [e1, e2]
  exact Int.mul_le_mul_of_nonneg_right k (Int.mul_nonneg ha (Int.mul_nonneg (Int.le_of_lt hE) (Int.le_of_lt hE)))
theorem own_q_le {s u : Int64} (hs : own_ct s) (hu : own_ct u) (u0 : 0 < u.toInt) (h : 10 * s.toInt ≤ 9 * u.toInt) : zval b64 (val64 (FP.ddiv (FP.l2d s) (FP.l2d u))) ≤ zval b64 (val64 4606281698874543309) := by
  refine own_div_le (l2d_fin s) (own_pos hs) (l2d_fin u) (own_pos hu) (by show 0 < zval b64 (val64 (FP.l2d u)); rw [own_zv hu]; exact Int.mul_pos u0 own_one64) (by decide +kernel) (by decide) ?_
  show zval b64 (val64 (FP.l2d s)) * _ ≤ _ * zval b64 (val64 (FP.l2d u))
  rw [own_zv hs, own_zv hu, own_v9, own_one_eq]
  have k : s.toInt * 9007199254740992 ≤ 8106479329266893 * u.toInt := by omega
  exact own_lin_le own_Epos (by decide) k
theorem own_q_ge {s u : Int64} (hs : own_ct s) (hu : own_ct u) (u0 : 0 < u.toInt) (h : ¬ 10 * s.toInt ≤ 9 * u.toInt) : zval b64 (val64 4606281698874543310) ≤ zval b64 (val64 (FP.ddiv (FP.l2d s) (FP.l2d u))) := by
  refine own_div_ge (l2d_fin s) (own_pos hs) (l2d_fin u) (own_pos hu) (by show 0 < zval b64 (val64 (FP.l2d u)); rw [own_zv hu]; exact Int.mul_pos u0 own_one64) (by decide +kernel) (by decide) ?_
  show _ * zval b64 (val64 (FP.l2d u)) ≤ zval b64 (val64 (FP.l2d s)) * _
  rw [own_zv hs, own_zv hu, own_v9', own_one_eq]
  have k : 8106479329266894 * u.toInt ≤ s.toInt * 9007199254740992 := by have := hu.2; omega
  exact own_lin_ge own_Epos (by decide) k
theorem own_q_nn {s u : Int64} (hu : own_ct u) (u0 : ¬ u = 0) : Jvm.Free.Fl.NoNaN64 (FP.ddiv (FP.l2d s) (FP.l2d u)) := by
  rw [Jvm.Free.Fl.noNaN64_no]
  exact ddiv_out (l2d_notNaN s) (l2d_fin u) (fun z => l2d_ne_zero u0 ((zero_bits2 _).mp z))
/-- the comparison with 0.9, as dcmpg gives it -/
theorem own_cmp9 {s u : Int64} (hs : own_ct s) (hu : own_ct u) (u0 : ¬ u = 0) : (0 : Int32) < cmpValue (FP.dcmp (FP.ddiv (FP.l2d s) (FP.l2d u)) 4606281698874543309) .g ↔ ¬ 10 * s.toInt ≤ 9 * u.toInt := by
  have nn : val64 (FP.ddiv (FP.l2d s) (FP.l2d u)) ≠ .nan := (notNaN_iff _).mp (Jvm.Free.Fl.noNaN64_no.mp (own_q_nn hu u0))
  have u1 : 0 < u.toInt := by have := hu.1; have := int64_ne u0; omega
  have e : FP.dcmp (FP.ddiv (FP.l2d s) (FP.l2d u)) 4606281698874543309 = some (compare (zval b64 (val64 (FP.ddiv (FP.l2d s) (FP.l2d u)))) (zval b64 (val64 4606281698874543309))) := dcmp_zval nn (by decide +kernel)
  rw [e]
  by_cases h : 10 * s.toInt ≤ 9 * u.toInt
  · have k := own_q_le hs hu u1 h
    have c : compare (zval b64 (val64 (FP.ddiv (FP.l2d s) (FP.l2d u)))) (zval b64 (val64 4606281698874543309)) ≠ .gt := fun q => by rw [compare_gt_iff] at q; omega
    revert c
    generalize compare (zval b64 (val64 (FP.ddiv (FP.l2d s) (FP.l2d u)))) (zval b64 (val64 4606281698874543309)) = o
    intro c
    cases o
    · simp [h]; decide
    · simp [h]; decide
    · exact absurd rfl c
  · have k := own_q_ge hs hu u1 h
    have c : compare (zval b64 (val64 (FP.ddiv (FP.l2d s) (FP.l2d u)))) (zval b64 (val64 4606281698874543309)) = .gt := by
      rw [compare_gt_iff]
      rw [own_v9'] at k; rw [own_v9]; have := own_Epos; omega
    rw [c]; simp [h]; decide
end
section
open Jvm.FP.Core
def own_F : Nat := 2 ^ 1071
theorem own_one_F : (one64 : Int) = 8 * (own_F : Int) := by decide +kernel
theorem own_Fpos : 0 < (own_F : Int) := by decide +kernel
/-- the double -n/8 -/
theorem own_dy (n : Nat) (hn : n < 2 ^ 53) : ∃ V : UInt64, val64 V ≠ .nan ∧ zval b64 (val64 V) = -((n : Int) * (own_F : Int)) := by
  obtain ⟨c', q', e, u⟩ := round_exact good_b64 true (c := n) (q := -3) hn (by decide) (by decide)
  refine ⟨of64 (round b64 (.fin true n (-3))), ?_, ?_⟩
  · rw [val64_of64 (round_fits good_b64 _), e]; exact Datum.noConfusion
  · rw [val64_of64 (round_fits good_b64 _), e]
    show -((inUnits c' q' b64.qmin : Nat) : Int) = _
    rw [u]
    unfold inUnits own_F
    rw [show ((-3 : Int) - b64.qmin).toNat = 1071 by decide]
    push_cast; rfl
theorem own_w8 : val64 4593671619917905920 = .fin false (2 ^ 52) (-55) := by decide +kernel
theorem own_zw8 : zmag b64 (.fin false (2 ^ 52) (-55)) = own_F := by decide +kernel
theorem own_mul8 {c : Int64} {n : Nat} (hc : c.toInt.natAbs ≤ 2 ^ 53) (hn : n < 2 ^ 53) (h : -(n : Int) ≤ c.toInt) : -((n : Int) * (own_F : Int)) ≤ zval b64 (val64 (FP.dmul 4593671619917905920 (FP.l2d c))) := by
  obtain ⟨V, v1, v2⟩ := own_dy n hn
  rw [← v2]
  show _ ≤ zval b64 (val64 (dmul 4593671619917905920 (l2d c)))
  have zx : zval b64 (val64 (l2d c)) = c.toInt * (one64 : Int) := DInt_zval (l2d_int hc)
  rw [val64_dmul, own_w8]
  obtain ⟨t, d, r, e⟩ := l2d_fin c
  have fx := val64_fits (l2d c)
  rw [e] at zx fx ⊢
  obtain ⟨p1, p2, p3⟩ := product_units (f := b64) (s := false) (c := 2 ^ 52) (q := -55) (own_w8 ▸ val64_fits 4593671619917905920) fx
  rw [p1]
  refine zval_round_ge good_b64 (val64_fits V) v1 (e0 := 2 * b64.qmin) (by decide) p2 ?_
  rw [p3, v2, own_zw8]
  have e8 : ((2 ^ (b64.qmin - 2 * b64.qmin).toNat : Nat) : Int) = (one64 : Int) := by decide +kernel
  rw [e8, show (false != t) = t from by cases t <;> rfl]
  have e9 : signed t (own_F * zmag b64 (.fin t d r)) = (own_F : Int) * (c.toInt * (one64 : Int)) := by
    rw [← zx]; show signed t _ = (own_F : Int) * signed t _
    rw [Nat.mul_comm, signed_mul, Int.mul_comm]
  rw [e9]
  have k : -(n : Int) * ((own_F : Int) * (one64 : Int)) ≤ c.toInt * ((own_F : Int) * (one64 : Int)) := Int.mul_le_mul_of_nonneg_right h (Int.mul_nonneg (Int.le_of_lt own_Fpos) (Int.le_of_lt own_one64))
  calc -((n : Int) * (own_F : Int)) * (one64 : Int) = -(n : Int) * ((own_F : Int) * (one64 : Int)) := by rw [Int.neg_mul, Int.neg_mul, Int.mul_assoc]
    _ ≤ c.toInt * ((own_F : Int) * (one64 : Int)) := k
    _ = (own_F : Int) * (c.toInt * (one64 : Int)) := by rw [← Int.mul_assoc, ← Int.mul_assoc, Int.mul_comm c.toInt]
end
section
open Jvm.FP.Core
theorem own_av {a b : Int64} (ha : own_ct a) (hb' : own_ct b) (a0 : ¬ a = 0) :
    Jvm.Free.Fl.NoNaN64 (FP.dsub (FP.l2d b) (FP.l2d a)) ∧ Jvm.Free.Fl.NoNaN64 (FP.dmul 4593671619917905920 (FP.dsub (FP.l2d b) (FP.l2d a))) ∧ Jvm.Free.Fl.NoNaN64 (FP.dadd (FP.l2d a) (FP.dmul 4593671619917905920 (FP.dsub (FP.l2d b) (FP.l2d a)))) ∧
    ¬ cmpValue (FP.dcmp (FP.dadd (FP.l2d a) (FP.dmul 4593671619917905920 (FP.dsub (FP.l2d b) (FP.l2d a)))) FP.dconst0) .l = 0 := by
  rw [dsub_w (own_ct53 hb') (own_ct53 ha)]
  have ec : (b - a).toInt = b.toInt - a.toInt := sub64 (own_ct53 hb') (own_ct53 ha)
  have a1 : 0 < a.toInt := by have := ha.1; have := int64_ne a0; omega
  have h1 := ha.2
  have h2 := hb'.1
  have h3 := hb'.2
  generalize b - a = c at ec ⊢
  have k := own_mul8 (c := c) (n := a.toInt.toNat) (by omega) (by omega) (by omega)
  have fm : DFin (FP.dmul 4593671619917905920 (FP.l2d c)) := by
    have q := dmul_mag (a := 4593671619917905920) (b := l2d c) (Ka := 1021) (Kb := 1088) (by decide) (l2d_mag c) (by decide) (by decide)
    rw [fin_bits]
    exact Nat.lt_trans q (by decide)
  have nm : Jvm.Free.Fl.NoNaN64 (FP.dmul 4593671619917905920 (FP.l2d c)) := Jvm.Free.Fl.noNaN64_no.mpr fm.notNaN
  have na : dIsNaN (dadd (l2d a) (dmul 4593671619917905920 (l2d c))) = false := dadd_out (l2d_notNaN a) fm
  refine ⟨Jvm.Free.Fl.noNaN64_no.mpr (l2d_fin c).notNaN, nm, Jvm.Free.Fl.noNaN64_no.mpr na, ?_⟩
  have s := sum_ge good_b64 (x := val64 (l2d a)) (y := val64 (FP.dmul 4593671619917905920 (FP.l2d c))) (V := val64 4602678819172646912) (l2d_fin a) fm (val64_fits _) (val64_fits _) (val64_fits _) (by decide +kernel) (by
    have e1 : zval b64 (val64 (l2d a)) = a.toInt * (one64 : Int) := own_zv ha
    have e2 : zval b64 (val64 4602678819172646912) = 4 * (own_F : Int) := by decide +kernel
    rw [e1, e2, own_one_F]
    have t : ((a.toInt.toNat : Nat) : Int) = a.toInt := by omega
    rw [t] at k
    have e3 : a.toInt * (8 * (own_F : Int)) = 8 * (a.toInt * (own_F : Int)) := by rw [← Int.mul_assoc, Int.mul_comm a.toInt 8, Int.mul_assoc]
    have e4 : (own_F : Int) ≤ a.toInt * (own_F : Int) := by
      have := Int.mul_le_mul_of_nonneg_right (show (1 : Int) ≤ a.toInt by omega) (Int.le_of_lt own_Fpos); omega
    rw [e3]; have := own_Fpos; omega)
  rw [← val64_dadd] at s
  have s : zval b64 (val64 4602678819172646912) ≤ zval b64 (val64 (dadd (l2d a) (dmul 4593671619917905920 (l2d c)))) := s
  intro z
  have e : FP.dcmp (FP.dadd (FP.l2d a) (FP.dmul 4593671619917905920 (FP.l2d c))) FP.dconst0 = some (compare (zval b64 (val64 (dadd (l2d a) (dmul 4593671619917905920 (l2d c))))) (zval b64 (val64 dconst0))) := dcmp_zval ((notNaN_iff _).mp na) (by decide +kernel)
  rw [e] at z
  have g : compare (zval b64 (val64 (dadd (l2d a) (dmul 4593671619917905920 (l2d c))))) (zval b64 (val64 dconst0)) = .gt := by
    rw [compare_gt_iff]
    have e0 : zval b64 (val64 dconst0) = 0 := by decide +kernel
    have e2 : zval b64 (val64 4602678819172646912) = 4 * (own_F : Int) := by decide +kernel
    rw [e0]; rw [e2] at s; have := own_Fpos; omega
  rw [g] at z
  exact absurd z (by decide)
end
section
open Jvm.FP.Core
def own_D (t d : Int64) : Int64 := if t = 0 then 0 else d
def own_Q (st A : Int64) (v : UInt64) : UInt64 := if st = 0 then 0 else if A = 0 then 0 else v
def own_X (st B : Int64) (u v : UInt64) : UInt64 := if st = 0 then FP.l2d B else if B = 0 then u else v
theorem own_lcz {x : Int64} : lcmpW x 0 = 0 ↔ x = 0 := by rw [lcW]; exact lc_eq x 0
theorem own_c00 : cmpValue (FP.dcmp (FP.l2d 0) FP.dconst0) .l = 0 := by decide +kernel
theorem own_cz : cmpValue (FP.dcmp (0 : UInt64) FP.dconst0) .l = 0 := by decide +kernel
theorem own_cA {a : Int64} (h : own_ct a) : cmpValue (FP.dcmp (FP.l2d a) FP.dconst0) .l = 0 ↔ a = 0 := by rw [own_cmp0 h]; exact own_lcz
theorem own_nn1 (a : Int64) : Jvm.Free.Fl.NoNaN64 (FP.ddiv (FP.l2d a) (FP.l2d 1)) := own_q_nn ⟨by decide, by decide⟩ (by decide)
theorem own_q_nn2 {a : Int64} (a0 : ¬ a = 0) (u : Int64) : Jvm.Free.Fl.NoNaN64 (FP.ddiv (FP.l2d a) (FP.l2d u)) :=
  Jvm.Free.Fl.noNaN64_no.mpr (ddiv_out' (l2d_fin a) (fun z => l2d_ne_zero a0 ((zero_bits2 _).mp z)) (l2d_notNaN u))
end
theorem d7_0 : decode prog_268_method_6_code 0 = .ok (.dload_n 0, 1) := by decide +kernel
theorem d7_1 : decode prog_268_method_6_code 1 = .ok (.dconst 0, 1) := by decide +kernel
theorem d7_2 : decode prog_268_method_6_code 2 = .ok (.dcmp .l, 1) := by decide +kernel
theorem d7_3 : decode prog_268_method_6_code 3 = .ok (.ifCond .ne 7, 3) := by decide +kernel
theorem d7_6 : decode prog_268_method_6_code 6 = .ok (.dload_n 2, 1) := by decide +kernel
theorem d7_7 : decode prog_268_method_6_code 7 = .ok (.goto 12, 3) := by decide +kernel
theorem d7_10 : decode prog_268_method_6_code 10 = .ok (.dload_n 0, 1) := by decide +kernel
theorem d7_11 : decode prog_268_method_6_code 11 = .ok (.ldc2_w 42, 3) := by decide +kernel
theorem d7_14 : decode prog_268_method_6_code 14 = .ok (.dload_n 2, 1) := by decide +kernel
theorem d7_15 : decode prog_268_method_6_code 15 = .ok (.dload_n 0, 1) := by decide +kernel
theorem d7_16 : decode prog_268_method_6_code 16 = .ok (.dsub, 1) := by decide +kernel
theorem d7_17 : decode prog_268_method_6_code 17 = .ok (.dmul, 1) := by decide +kernel
theorem d7_18 : decode prog_268_method_6_code 18 = .ok (.dadd, 1) := by decide +kernel
theorem d7_19 : decode prog_268_method_6_code 19 = .ok (.dreturn, 1) := by decide +kernel
theorem ef_7_0 (m : MethodId) (d0 : UInt64) (d1 : UInt64) : entryFrame m #[(.double d0), (.double d1)] 4 = mkF m 0 #[.val (.double d0), .second, .val (.double d1), .second] [] := by first | (simp [entryFrame, mkF, argsToLocals, Value.category]; done) | rfl
theorem pn_com_example_dialtone_dialtone_workload_Workers_Sharing : plainName "com/example/dialtone/dialtone/workload/Workers$Sharing" = true := by first | (simp [plainName, overriddenIn]; done) | decide +kernel
def Q_rm7a (Z : State) (d0 : UInt64) (d1 : UInt64)  (h0 : Heap) (n0 : Nat) (v : Option Value) (h : Heap) (L : List Loc) : Prop := v = some (.double d1) ∧ Fr n0 L ∧ h = h0
set_option maxRecDepth 65536 in
set_option maxHeartbeats 40000000 in
theorem rm7a (l : Launch) (Z : State) (a0 : Array Value) (hw : ∀ d ∈ tables_1, d.before a0 Z = true) (ws : List Jvm.Cond) (d0 : UInt64) (d1 : UInt64)  (h0 : Heap) (n0 : Nat) (Z0 : n0 ≤ h0.size) (hc : (cmpValue (FP.dcmp d0 FP.dconst0) .l) = (0 : Int32)) :
    MetFree l (⟨"com/example/dialtone/dialtone/workload/Workers$Sharing", "average", "(DD)D"⟩ : MethodName) (head1 (Jvm.Cond.code (⟨"com/example/dialtone/dialtone/workload/Workers$Sharing", "average", "(DD)D"⟩ : MethodName) prog_268_method_6_code 4 (some .double) :: ws) ({ frames := 0, cells := 0, slots := 0, locals := 0 } : Room)) (fun a U => a = #[(.double d0), (.double d1)] ∧ Z.Warmed39 U.vm ∧ U.heap = h0) (fun _ _ _ _ _ => True) (fun _ U o U' => ∃ v L, o = .returned v ∧ Q_rm7a Z d0 d1 h0 n0 v U'.heap L ∧ FrameEnd U o U' L ({ frames := 0, cells := 0, slots := 0, locals := 0 } : Room).cells ({ frames := 0, cells := 0, slots := 0, locals := 0 } : Room).slots) := by
  refine MetFree.of_bodySF (plainFor_of_name pn_com_example_dialtone_dialtone_workload_Workers_Sharing) hisR ?_
  intro p e s m args below meth c s₁ Bd hml0 hP hK
  obtain ⟨rfl, hZ, hh⟩ := hP
  have hx := Bd.exec
  have hby := Bd.bytes
  have hlk := BodyLoose.notSynchronized Bd
  have hrt := Bd.returns
  have hml : c.maxLocals = 4 := hml0
  have hown : s.vm.findClass "com/example/dialtone/dialtone/workload/Workers$Sharing" = some m.cls := findClass_of_methodNamed Bd.named
  have hnm := (name_of_methodNamed Bd.named Bd.method).1
  have X0 : Stand p l e ({ frames := 0, cells := 0, slots := 0, locals := 0 } : Room) s m #[(.double d0), (.double d1)] below meth c s₁ [] 0 0 := Stand.of_body Bd
  have e0 : s₁.heap = h0 := by rw [← hh, Bd.state]; rfl
  have N0 := Fr.nil n0
  have K0 : Keep h0 h0 [] := Keep.refl h0 _
  show Runs p e below (QE s (Q_rm7a Z d0 d1 h0 n0) ({ frames := 0, cells := 0, slots := 0, locals := 0 } : Room).cells ({ frames := 0, cells := 0, slots := 0, locals := 0 } : Room).slots) (s₁.setTop (entryFrame m #[(.double d0), (.double d1)] 4))
  rw [ef_7_0 m d0 d1]
  refine Runs.by (fun _ hr => XS.dloadN X0.here hx rfl (hb hby d7_0) rfl  hr) ?_
  refine Runs.by (fun _ hr => XS.dconst0 X0.here hx rfl (hb hby d7_1) rfl hr) ?_
  show Runs p e below _ (s₁.setTop (mkF m 2 #[.val (.double d0), .second, .val (.double d1), .second] [(.double FP.dconst0), (.double d0)]))
  refine Runs.by (fun _ hr => XS.dcmpS X0.here hx rfl (hb hby d7_2) rfl rfl hr) ?_
  have hc3 : (cmpValue (FP.dcmp d0 FP.dconst0) .l) = (0 : Int32) := hc
  refine Runs.by (fun _ hr => XS.ifNo X0.here hx rfl (hb hby d7_3) rfl ((if0 _ _).trans (teq hc3).2) hr) ?_
  refine Runs.by (fun _ hr => XS.dloadN X0.here hx rfl (hb hby d7_6) rfl  hr) ?_
  show Runs p e below _ (s₁.setTop (mkF m 7 #[.val (.double d0), .second, .val (.double d1), .second] [(.double d1)]))
  refine Runs.by (fun _ hr => XS.goto X0.here hx rfl (pc0 := 7) (pc' := 19) rfl (hb hby d7_7) (by decide) (by decide) hr) ?_
  show Runs p e below _ (s₁.setTop (mkF m 19 #[.val (.double d0), .second, .val (.double d1), .second] [(.double d1)]))
  refine Runs.ret X0 hx hrt hlk (Or.inr (Or.inr (Or.inl ⟨rfl, rfl, _, rfl⟩))) rfl (hb hby d7_19) (by decide) (by decide) ?_
  rw [e0]
  exact ⟨rfl, N0, rfl⟩
def Q_rm7b (Z : State) (d0 : UInt64) (d1 : UInt64)  (h0 : Heap) (n0 : Nat) (v : Option Value) (h : Heap) (L : List Loc) : Prop := v = some (.double (FP.dadd d0 (FP.dmul (4593671619917905920 : UInt64) (FP.dsub d1 d0)))) ∧ Fr n0 L ∧ h = h0
set_option maxRecDepth 65536 in
set_option maxHeartbeats 40000000 in
theorem rm7b (l : Launch) (Z : State) (a0 : Array Value) (hw : ∀ d ∈ tables_1, d.before a0 Z = true) (ws : List Jvm.Cond) (d0 : UInt64) (d1 : UInt64)  (h0 : Heap) (n0 : Nat) (Z0 : n0 ≤ h0.size) (n1 : Jvm.Free.Fl.NoNaN64 (FP.dsub d1 d0)) (n2 : Jvm.Free.Fl.NoNaN64 (FP.dmul (4593671619917905920 : UInt64) (FP.dsub d1 d0))) (n3 : Jvm.Free.Fl.NoNaN64 (FP.dadd d0 (FP.dmul (4593671619917905920 : UInt64) (FP.dsub d1 d0)))) (hc : ¬ (cmpValue (FP.dcmp d0 FP.dconst0) .l) = (0 : Int32)) :
    MetFree l (⟨"com/example/dialtone/dialtone/workload/Workers$Sharing", "average", "(DD)D"⟩ : MethodName) (head1 (Jvm.Cond.code (⟨"com/example/dialtone/dialtone/workload/Workers$Sharing", "average", "(DD)D"⟩ : MethodName) prog_268_method_6_code 4 (some .double) :: ws) ({ frames := 0, cells := 0, slots := 0, locals := 0 } : Room)) (fun a U => a = #[(.double d0), (.double d1)] ∧ Z.Warmed39 U.vm ∧ U.heap = h0) (fun _ _ _ _ _ => True) (fun _ U o U' => ∃ v L, o = .returned v ∧ Q_rm7b Z d0 d1 h0 n0 v U'.heap L ∧ FrameEnd U o U' L ({ frames := 0, cells := 0, slots := 0, locals := 0 } : Room).cells ({ frames := 0, cells := 0, slots := 0, locals := 0 } : Room).slots) := by
  refine MetFree.of_bodySF (plainFor_of_name pn_com_example_dialtone_dialtone_workload_Workers_Sharing) hisR ?_
  intro p e s m args below meth c s₁ Bd hml0 hP hK
  obtain ⟨rfl, hZ, hh⟩ := hP
  have hx := Bd.exec
  have hby := Bd.bytes
  have hlk := BodyLoose.notSynchronized Bd
  have hrt := Bd.returns
  have hml : c.maxLocals = 4 := hml0
  have hown : s.vm.findClass "com/example/dialtone/dialtone/workload/Workers$Sharing" = some m.cls := findClass_of_methodNamed Bd.named
  have hnm := (name_of_methodNamed Bd.named Bd.method).1
  have X0 : Stand p l e ({ frames := 0, cells := 0, slots := 0, locals := 0 } : Room) s m #[(.double d0), (.double d1)] below meth c s₁ [] 0 0 := Stand.of_body Bd
  have e0 : s₁.heap = h0 := by rw [← hh, Bd.state]; rfl
  have N0 := Fr.nil n0
  have K0 : Keep h0 h0 [] := Keep.refl h0 _
  show Runs p e below (QE s (Q_rm7b Z d0 d1 h0 n0) ({ frames := 0, cells := 0, slots := 0, locals := 0 } : Room).cells ({ frames := 0, cells := 0, slots := 0, locals := 0 } : Room).slots) (s₁.setTop (entryFrame m #[(.double d0), (.double d1)] 4))
  rw [ef_7_0 m d0 d1]
  refine Runs.by (fun _ hr => XS.dloadN X0.here hx rfl (hb hby d7_0) rfl  hr) ?_
  refine Runs.by (fun _ hr => XS.dconst0 X0.here hx rfl (hb hby d7_1) rfl hr) ?_
  show Runs p e below _ (s₁.setTop (mkF m 2 #[.val (.double d0), .second, .val (.double d1), .second] [(.double FP.dconst0), (.double d0)]))
  refine Runs.by (fun _ hr => XS.dcmpS X0.here hx rfl (hb hby d7_2) rfl rfl hr) ?_
  have hc3 : ¬ ((cmpValue (FP.dcmp d0 FP.dconst0) .l) = (0 : Int32)) := hc
  refine Runs.by (fun _ hr => XS.ifYes X0.here hx rfl (pc0 := 3) (pc' := 10) rfl (hb hby d7_3) rfl ((if0 _ _).trans (feq hc3).2) (by decide) (by decide) hr) ?_
  refine Runs.by (fun _ hr => XS.dloadN X0.here hx rfl (hb hby d7_10) rfl  hr) ?_
  show Runs p e below _ (s₁.setTop (mkF m 11 #[.val (.double d0), .second, .val (.double d1), .second] [(.double d0)]))
  refine Runs.by (fun t hr => X0.ldc2DoubleC hx hown (mvT hZ (hw _ (List.mem_of_getElem? (i := 48) rfl))) (g := (mkF m 11 #[.val (.double d0), .second, .val (.double d1), .second] [(.double d0)])) rfl (hb hby d7_11) t hr) ?_
  refine Runs.by (fun _ hr => XS.dloadN X0.here hx rfl (hb hby d7_14) rfl  hr) ?_
  refine Runs.by (fun _ hr => XS.dloadN X0.here hx rfl (hb hby d7_15) rfl  hr) ?_
  show Runs p e below _ (s₁.setTop (mkF m 16 #[.val (.double d0), .second, .val (.double d1), .second] [(.double d0), (.double d1), (.double (4593671619917905920 : UInt64)), (.double d0)]))
  refine Runs.by (fun _ hr => XS.dsubS X0.here hx rfl (hb hby d7_16) rfl n1 rfl hr) ?_
  show Runs p e below _ (s₁.setTop (mkF m 17 #[.val (.double d0), .second, .val (.double d1), .second] [(.double (FP.dsub d1 d0)), (.double (4593671619917905920 : UInt64)), (.double d0)]))
  refine Runs.by (fun _ hr => XS.dmulS X0.here hx rfl (hb hby d7_17) rfl n2 rfl hr) ?_
  show Runs p e below _ (s₁.setTop (mkF m 18 #[.val (.double d0), .second, .val (.double d1), .second] [(.double (FP.dmul (4593671619917905920 : UInt64) (FP.dsub d1 d0))), (.double d0)]))
  refine Runs.by (fun _ hr => XS.daddS X0.here hx rfl (hb hby d7_18) rfl n3 rfl hr) ?_
  show Runs p e below _ (s₁.setTop (mkF m 19 #[.val (.double d0), .second, .val (.double d1), .second] [(.double (FP.dadd d0 (FP.dmul (4593671619917905920 : UInt64) (FP.dsub d1 d0))))]))
  refine Runs.ret X0 hx hrt hlk (Or.inr (Or.inr (Or.inl ⟨rfl, rfl, _, rfl⟩))) rfl (hb hby d7_19) (by decide) (by decide) ?_
  rw [e0]
  exact ⟨rfl, N0, rfl⟩
theorem d1_0 : decode prog_268_method_1_code 0 = .ok (.aload_n 0, 1) := by decide +kernel
theorem d1_1 : decode prog_268_method_1_code 1 = .ok (.invokespecial 1, 3) := by decide +kernel
theorem d1_4 : decode prog_268_method_1_code 4 = .ok (.aload_n 0, 1) := by decide +kernel
theorem d1_5 : decode prog_268_method_1_code 5 = .ok (.iconst 2, 1) := by decide +kernel
theorem d1_6 : decode prog_268_method_1_code 6 = .ok (.newarray .double, 2) := by decide +kernel
theorem d1_8 : decode prog_268_method_1_code 8 = .ok (.putfield 7, 3) := by decide +kernel
theorem d1_11 : decode prog_268_method_1_code 11 = .ok (.return_, 1) := by decide +kernel
theorem ef_1_1 (m : MethodId) (o0 : Addr) : entryFrame m #[(.ref o0)] 1 = mkF m 0 #[.val (.ref o0)] [] := by first | (simp [entryFrame, mkF, argsToLocals, Value.category]; done) | rfl
def Q_rm1 (Z : State) (o0 : Addr)  (h0 : Heap) (n0 : Nat) (v : Option Value) (h : Heap) (L : List Loc) : Prop := v = none ∧ Fr n0 L ∧ Keep h0 h [o0] ∧ Exa Z h o0 "com/example/dialtone/dialtone/workload/Workers$Sharing" ∧ ∃ (t : Addr) (kt : ClassId), n0 ≤ t ∧ h0.size ≤ t ∧ t ≠ o0 ∧ Fld Z h o0 "com/example/dialtone/dialtone/workload/Workers$Sharing" "nanosPerStep" "[D" (.ref t) ∧ Fld Z h o0 "com/example/dialtone/dialtone/workload/Workers$Sharing" "rounds" "J" (.long (0 : Int64)) ∧ Fld Z h o0 "com/example/dialtone/dialtone/workload/Workers$Sharing" "otherWay" "Z" (.int (0 : Int32)) ∧ Fld Z h o0 "com/example/dialtone/dialtone/workload/Workers$Sharing" "started" "J" (.long (0 : Int64)) ∧ Fld Z h o0 "com/example/dialtone/dialtone/workload/Workers$Sharing" "shared" "Z" (.int (0 : Int32)) ∧ Fld Z h o0 "com/example/dialtone/dialtone/workload/Workers$Sharing" "steps" "J" (.long (0 : Int64)) ∧ Fld Z h o0 "com/example/dialtone/dialtone/workload/Workers$Sharing" "sharedOverUnshared" "D" (.double (0 : UInt64)) ∧ Arv Z h t kt .double (2 : Int32) [(.double (0 : UInt64)), (.double (0 : UInt64))] (.double (0 : UInt64))
set_option maxRecDepth 65536 in
set_option maxHeartbeats 40000000 in
theorem rm1 (l : Launch) (Z : State) (a0 : Array Value) (hw : ∀ d ∈ tables_1, d.before a0 Z = true) (ws : List Jvm.Cond) (o0 : Addr)  (h0 : Heap) (n0 : Nat) (Z0 : n0 ≤ h0.size) (E0 : Exa Z h0 o0 "com/example/dialtone/dialtone/workload/Workers$Sharing") (g_o0 : n0 ≤ o0) (P_nanosPerStep : Fld Z h0 o0 "com/example/dialtone/dialtone/workload/Workers$Sharing" "nanosPerStep" "[D" .null) (P_rounds : Fld Z h0 o0 "com/example/dialtone/dialtone/workload/Workers$Sharing" "rounds" "J" (.long (0 : Int64))) (P_otherWay : Fld Z h0 o0 "com/example/dialtone/dialtone/workload/Workers$Sharing" "otherWay" "Z" (.int (0 : Int32))) (P_started : Fld Z h0 o0 "com/example/dialtone/dialtone/workload/Workers$Sharing" "started" "J" (.long (0 : Int64))) (P_shared : Fld Z h0 o0 "com/example/dialtone/dialtone/workload/Workers$Sharing" "shared" "Z" (.int (0 : Int32))) (P_steps : Fld Z h0 o0 "com/example/dialtone/dialtone/workload/Workers$Sharing" "steps" "J" (.long (0 : Int64))) (P_sharedOverUnshared : Fld Z h0 o0 "com/example/dialtone/dialtone/workload/Workers$Sharing" "sharedOverUnshared" "D" (.double (0 : UInt64))) :
    MetFree l (⟨"com/example/dialtone/dialtone/workload/Workers$Sharing", "<init>", "()V"⟩ : MethodName) (head1 (Jvm.Cond.code (⟨"com/example/dialtone/dialtone/workload/Workers$Sharing", "<init>", "()V"⟩ : MethodName) prog_268_method_1_code 1 none :: ws) ({ frames := 1, cells := 1, slots := 2, locals := 20 } : Room)) (fun a U => a = #[(.ref o0)] ∧ Z.Warmed39 U.vm ∧ U.heap = h0) (fun _ _ _ _ _ => True) (fun _ U o U' => ∃ v L, o = .returned v ∧ Q_rm1 Z o0 h0 n0 v U'.heap L ∧ FrameEnd U o U' L ({ frames := 1, cells := 1, slots := 2, locals := 20 } : Room).cells ({ frames := 1, cells := 1, slots := 2, locals := 20 } : Room).slots) := by
  refine MetFree.of_bodySF (plainFor_of_name pn_com_example_dialtone_dialtone_workload_Workers_Sharing) hisR ?_
  intro p e s m args below meth c s₁ Bd hml0 hP hK
  obtain ⟨rfl, hZ, hh⟩ := hP
  have hx := Bd.exec
  have hby := Bd.bytes
  have hlk := BodyLoose.notSynchronized Bd
  have hrt := Bd.returns
  have hml : c.maxLocals = 1 := hml0
  have hown : s.vm.findClass "com/example/dialtone/dialtone/workload/Workers$Sharing" = some m.cls := findClass_of_methodNamed Bd.named
  have hnm := (name_of_methodNamed Bd.named Bd.method).1
  have X0 : Stand p l e ({ frames := 1, cells := 1, slots := 2, locals := 20 } : Room) s m #[(.ref o0)] below meth c s₁ [] 0 0 := Stand.of_body Bd
  have e0 : s₁.heap = h0 := by rw [← hh, Bd.state]; rfl
  have N0 := Fr.nil n0
  have K0 : Keep h0 h0 [o0] := Keep.refl h0 _
  show Runs p e below (QE s (Q_rm1 Z o0 h0 n0) ({ frames := 1, cells := 1, slots := 2, locals := 20 } : Room).cells ({ frames := 1, cells := 1, slots := 2, locals := 20 } : Room).slots) (s₁.setTop (entryFrame m #[(.ref o0)] 1))
  rw [ef_1_1 m o0]
  refine Runs.by (fun _ hr => XS.aloadN X0.here hx rfl (hb hby d1_0) rfl rfl hr) ?_
  show Runs p e below _ (s₁.setTop (mkF m 1 #[.val (.ref o0)] [(.ref o0)]))
  obtain ⟨T1, X1, e1, st1⟩ := initO X0 hx hZ hown (hw _ (List.mem_of_getElem? (i := 7) rfl)) (hw _ (List.mem_of_getElem? (i := 8) rfl)) (hw _ (List.mem_of_getElem? (i := 9) rfl)) e0 (g := (mkF m 1 #[.val (.ref o0)] [(.ref o0)])) rfl (by rw [hml]; rfl) rfl (hb hby d1_1) (by decide) (W := 0) (by show 2 * 0 + _ ≤ _; exact Nat.le_of_eq rfl) (by decide)
  refine Runs.by st1 ?_
  refine Runs.by (fun _ hr => XS.aloadN X1.here hx rfl (hb hby d1_4) rfl rfl hr) ?_
  refine Runs.by (fun _ hr => XS.iconst X1.here hx rfl (hb hby d1_5) hr) ?_
  show Runs p e below _ (T1.setTop (mkF m 6 #[.val (.ref o0)] [(.int (2 : Int32)), (.ref o0)]))
  obtain ⟨T2, h2, k2, X2, e2, E2, A2, st2⟩ := newP X1 hx hZ (hw _ (List.mem_of_getElem? (i := 10) rfl)) e1 (g := (mkF m 6 #[.val (.ref o0)] [(.int (2 : Int32)), (.ref o0)])) rfl (hb hby d1_6) rfl (by decide) (cap := 2) (by decide) (by decide) (by decide) (by decide)
  obtain ⟨b2, gz2⟩ : ∃ z, z = h0.size := ⟨_, rfl⟩
  rw [← gz2] at A2 st2
  have ne_o0_b2 : o0 ≠ b2 := Nat.ne_of_lt (Nat.lt_of_lt_of_le E0.lt (Nat.le_of_eq gz2.symm))
  have g_b2 : n0 ≤ b2 := Nat.le_trans (Nat.le_trans Z0 K0.1) (Nat.le_of_eq gz2.symm)
  have sz_b2 : h0.size ≤ b2 := Nat.le_trans K0.1 (Nat.le_of_eq gz2.symm)
  have K3 : Keep h0 h2 [o0] := K0.ext E2
  have V2 : Arv Z h2 b2 k2 .double (2 : Int32) [(.double (0 : UInt64)), (.double (0 : UInt64))] (.double (0 : UInt64)) := (Arv.new A2 (by decide)).pad (pad_rep [] (.double (0 : UInt64)) 2)
  refine Runs.by st2 ?_
  show Runs p e below _ (T2.setTop (mkF m 8 #[.val (.ref o0)] [(.ref b2), (.ref o0)]))
  obtain ⟨T4, h4, X4, e4, W4, st4⟩ := putF X2 hx hZ hown (host := "") (Or.inl (hw _ (List.mem_of_getElem? (i := 11) rfl))) Via.refl e2 (P_nanosPerStep.ext E2) (E0.ext E2) (Or.inr ⟨(hw _ (List.mem_of_getElem? (i := 12) rfl)), rfl, hnm⟩) (hw _ (List.mem_of_getElem? (i := 2) rfl)) (ty := (.array .double)) (by decide) rfl rfl (g := (mkF m 8 #[.val (.ref o0)] [(.ref b2), (.ref o0)])) rfl rfl (hb hby d1_8)
  have Fw4 := (P_nanosPerStep.ext E2).same W4
  have K5 : Keep h0 h4 [o0] := K3.wr W4 (Or.inl (List.mem_of_getElem? (i := 0) rfl))
  have N4 := Fr.snoc X4 N0 g_o0
  refine Runs.by st4 ?_
  show Runs p e below _ (T4.setTop (mkF m 11 #[.val (.ref o0)] []))
  refine Runs.retV X4 hx hrt hlk (hb hby d1_11) (by decide) (by decide) ?_
  rw [e4]
  exact ⟨rfl, N4, K5, ((E0.ext E2).wr W4), b2, k2, g_b2, sz_b2, (Ne.symm ne_o0_b2), Fw4, ((P_rounds.ext E2).other W4 (Or.inr (slot_ne (Or.inl (hw _ (List.mem_of_getElem? (i := 19) rfl))) (Or.inr (hw _ (List.mem_of_getElem? (i := 12) rfl))) (by decide) (t := .long) (t' := (.array .double)) (by decide) (by decide)))), ((P_otherWay.ext E2).other W4 (Or.inr (slot_ne (Or.inl (hw _ (List.mem_of_getElem? (i := 21) rfl))) (Or.inr (hw _ (List.mem_of_getElem? (i := 12) rfl))) (by decide) (t := .boolean) (t' := (.array .double)) (by decide) (by decide)))), ((P_started.ext E2).other W4 (Or.inr (slot_ne (Or.inl (hw _ (List.mem_of_getElem? (i := 28) rfl))) (Or.inr (hw _ (List.mem_of_getElem? (i := 12) rfl))) (by decide) (t := .long) (t' := (.array .double)) (by decide) (by decide)))), ((P_shared.ext E2).other W4 (Or.inr (slot_ne (Or.inl (hw _ (List.mem_of_getElem? (i := 30) rfl))) (Or.inr (hw _ (List.mem_of_getElem? (i := 12) rfl))) (by decide) (t := .boolean) (t' := (.array .double)) (by decide) (by decide)))), ((P_steps.ext E2).other W4 (Or.inr (slot_ne (Or.inl (hw _ (List.mem_of_getElem? (i := 32) rfl))) (Or.inr (hw _ (List.mem_of_getElem? (i := 12) rfl))) (by decide) (t := .long) (t' := (.array .double)) (by decide) (by decide)))), ((P_sharedOverUnshared.ext E2).other W4 (Or.inr (slot_ne (Or.inl (hw _ (List.mem_of_getElem? (i := 47) rfl))) (Or.inr (hw _ (List.mem_of_getElem? (i := 12) rfl))) (by decide) (t := .double) (t' := (.array .double)) (by decide) (by decide)))), (V2.other W4 (Ne.symm ne_o0_b2))⟩
theorem d3_0 : decode prog_268_method_2_code 0 = .ok (.aload_n 0, 1) := by decide +kernel
theorem d3_1 : decode prog_268_method_2_code 1 = .ok (.dup, 1) := by decide +kernel
theorem d3_2 : decode prog_268_method_2_code 2 = .ok (.getfield 13, 3) := by decide +kernel
theorem d3_5 : decode prog_268_method_2_code 5 = .ok (.lconst 1, 1) := by decide +kernel
theorem d3_6 : decode prog_268_method_2_code 6 = .ok (.ladd, 1) := by decide +kernel
theorem d3_7 : decode prog_268_method_2_code 7 = .ok (.putfield 13, 3) := by decide +kernel
theorem d3_10 : decode prog_268_method_2_code 10 = .ok (.aload_n 0, 1) := by decide +kernel
theorem d3_11 : decode prog_268_method_2_code 11 = .ok (.getfield 7, 3) := by decide +kernel
theorem d3_14 : decode prog_268_method_2_code 14 = .ok (.iconst 0, 1) := by decide +kernel
theorem d3_15 : decode prog_268_method_2_code 15 = .ok (.daload, 1) := by decide +kernel
theorem d3_16 : decode prog_268_method_2_code 16 = .ok (.dconst 0, 1) := by decide +kernel
theorem d3_17 : decode prog_268_method_2_code 17 = .ok (.dcmp .l, 1) := by decide +kernel
theorem d3_18 : decode prog_268_method_2_code 18 = .ok (.ifCond .eq 14, 3) := by decide +kernel
theorem d3_21 : decode prog_268_method_2_code 21 = .ok (.aload_n 0, 1) := by decide +kernel
theorem d3_22 : decode prog_268_method_2_code 22 = .ok (.getfield 7, 3) := by decide +kernel
theorem d3_25 : decode prog_268_method_2_code 25 = .ok (.iconst 1, 1) := by decide +kernel
theorem d3_26 : decode prog_268_method_2_code 26 = .ok (.daload, 1) := by decide +kernel
theorem d3_27 : decode prog_268_method_2_code 27 = .ok (.dconst 0, 1) := by decide +kernel
theorem d3_28 : decode prog_268_method_2_code 28 = .ok (.dcmp .l, 1) := by decide +kernel
theorem d3_29 : decode prog_268_method_2_code 29 = .ok (.ifCond .ne 28, 3) := by decide +kernel
theorem d3_32 : decode prog_268_method_2_code 32 = .ok (.aload_n 0, 1) := by decide +kernel
theorem d3_33 : decode prog_268_method_2_code 33 = .ok (.getfield 7, 3) := by decide +kernel
theorem d3_36 : decode prog_268_method_2_code 36 = .ok (.iconst 0, 1) := by decide +kernel
theorem d3_37 : decode prog_268_method_2_code 37 = .ok (.daload, 1) := by decide +kernel
theorem d3_38 : decode prog_268_method_2_code 38 = .ok (.dconst 0, 1) := by decide +kernel
theorem d3_39 : decode prog_268_method_2_code 39 = .ok (.dcmp .l, 1) := by decide +kernel
theorem d3_40 : decode prog_268_method_2_code 40 = .ok (.ifCond .eq 7, 3) := by decide +kernel
theorem d3_43 : decode prog_268_method_2_code 43 = .ok (.iconst 1, 1) := by decide +kernel
theorem d3_44 : decode prog_268_method_2_code 44 = .ok (.goto 4, 3) := by decide +kernel
theorem d3_47 : decode prog_268_method_2_code 47 = .ok (.iconst 0, 1) := by decide +kernel
theorem d3_48 : decode prog_268_method_2_code 48 = .ok (.istore_n 1, 1) := by decide +kernel
theorem d3_49 : decode prog_268_method_2_code 49 = .ok (.aload_n 0, 1) := by decide +kernel
theorem d3_50 : decode prog_268_method_2_code 50 = .ok (.iconst 0, 1) := by decide +kernel
theorem d3_51 : decode prog_268_method_2_code 51 = .ok (.putfield 17, 3) := by decide +kernel
theorem d3_54 : decode prog_268_method_2_code 54 = .ok (.goto 54, 3) := by decide +kernel
theorem d3_57 : decode prog_268_method_2_code 57 = .ok (.aload_n 0, 1) := by decide +kernel
theorem d3_58 : decode prog_268_method_2_code 58 = .ok (.aload_n 0, 1) := by decide +kernel
theorem d3_59 : decode prog_268_method_2_code 59 = .ok (.getfield 13, 3) := by decide +kernel
theorem d3_62 : decode prog_268_method_2_code 62 = .ok (.ldc2_w 21, 3) := by decide +kernel
theorem d3_65 : decode prog_268_method_2_code 65 = .ok (.lrem, 1) := by decide +kernel
theorem d3_66 : decode prog_268_method_2_code 66 = .ok (.lconst 0, 1) := by decide +kernel
theorem d3_67 : decode prog_268_method_2_code 67 = .ok (.lcmp, 1) := by decide +kernel
theorem d3_68 : decode prog_268_method_2_code 68 = .ok (.ifCond .ne 7, 3) := by decide +kernel
theorem d3_71 : decode prog_268_method_2_code 71 = .ok (.iconst 1, 1) := by decide +kernel
theorem d3_72 : decode prog_268_method_2_code 72 = .ok (.goto 4, 3) := by decide +kernel
theorem d3_75 : decode prog_268_method_2_code 75 = .ok (.iconst 0, 1) := by decide +kernel
theorem d3_76 : decode prog_268_method_2_code 76 = .ok (.putfield 17, 3) := by decide +kernel
theorem d3_79 : decode prog_268_method_2_code 79 = .ok (.aload_n 0, 1) := by decide +kernel
theorem d3_80 : decode prog_268_method_2_code 80 = .ok (.getfield 23, 3) := by decide +kernel
theorem d3_83 : decode prog_268_method_2_code 83 = .ok (.ldc2_w 27, 3) := by decide +kernel
theorem d3_86 : decode prog_268_method_2_code 86 = .ok (.dcmp .g, 1) := by decide +kernel
theorem d3_87 : decode prog_268_method_2_code 87 = .ok (.ifCond .gt 7, 3) := by decide +kernel
theorem d3_90 : decode prog_268_method_2_code 90 = .ok (.iconst 1, 1) := by decide +kernel
theorem d3_91 : decode prog_268_method_2_code 91 = .ok (.goto 4, 3) := by decide +kernel
theorem d3_94 : decode prog_268_method_2_code 94 = .ok (.iconst 0, 1) := by decide +kernel
theorem d3_95 : decode prog_268_method_2_code 95 = .ok (.aload_n 0, 1) := by decide +kernel
theorem d3_96 : decode prog_268_method_2_code 96 = .ok (.getfield 17, 3) := by decide +kernel
theorem d3_99 : decode prog_268_method_2_code 99 = .ok (.if_icmp .eq 7, 3) := by decide +kernel
theorem d3_102 : decode prog_268_method_2_code 102 = .ok (.iconst 1, 1) := by decide +kernel
theorem d3_103 : decode prog_268_method_2_code 103 = .ok (.goto 4, 3) := by decide +kernel
theorem d3_106 : decode prog_268_method_2_code 106 = .ok (.iconst 0, 1) := by decide +kernel
theorem d3_107 : decode prog_268_method_2_code 107 = .ok (.istore_n 1, 1) := by decide +kernel
theorem d3_108 : decode prog_268_method_2_code 108 = .ok (.iload_n 1, 1) := by decide +kernel
theorem d3_109 : decode prog_268_method_2_code 109 = .ok (.ireturn, 1) := by decide +kernel
theorem ef_3_2 (m : MethodId) (o0 : Addr) : entryFrame m #[(.ref o0)] 2 = mkF m 0 #[.val (.ref o0), .unset] [] := by first | (simp [entryFrame, mkF, argsToLocals, Value.category]; done) | rfl
def Q_rm3_0 (Z : State) (o0 : Addr) (ta : Addr) (kt : ClassId) (x0 x1 qv : UInt64) (st sp : Int64) (sh : Int32) (h0 : Heap) (n0 : Nat) (v : Option Value) (h : Heap) (L : List Loc) : Prop := v = some (.int (if (cmpValue (FP.dcmp x0 FP.dconst0) .l) = (0 : Int32) then (0 : Int32) else if (cmpValue (FP.dcmp x1 FP.dconst0) .l) = (0 : Int32) then (1 : Int32) else if (0 : Int32) < (cmpValue (FP.dcmp qv (4606281698874543309 : UInt64)) .g) then (0 : Int32) else (1 : Int32))) ∧ Fr n0 L ∧ Keep h0 h [o0] ∧ Exa Z h o0 "com/example/dialtone/dialtone/workload/Workers$Sharing" ∧ Fld Z h o0 "com/example/dialtone/dialtone/workload/Workers$Sharing" "nanosPerStep" "[D" (.ref ta) ∧ Fld Z h o0 "com/example/dialtone/dialtone/workload/Workers$Sharing" "rounds" "J" (.long (1 : Int64)) ∧ Fld Z h o0 "com/example/dialtone/dialtone/workload/Workers$Sharing" "otherWay" "Z" (.int (0 : Int32)) ∧ Fld Z h o0 "com/example/dialtone/dialtone/workload/Workers$Sharing" "started" "J" (.long st) ∧ Fld Z h o0 "com/example/dialtone/dialtone/workload/Workers$Sharing" "shared" "Z" (.int sh) ∧ Fld Z h o0 "com/example/dialtone/dialtone/workload/Workers$Sharing" "steps" "J" (.long sp) ∧ Fld Z h o0 "com/example/dialtone/dialtone/workload/Workers$Sharing" "sharedOverUnshared" "D" (.double qv) ∧ Arv Z h ta kt .double (2 : Int32) [(.double x0), (.double x1)] (.double (0 : UInt64))
set_option maxRecDepth 65536 in
set_option maxHeartbeats 40000000 in
theorem rm3_0 (l : Launch) (Z : State) (a0 : Array Value) (hw : ∀ d ∈ tables_1, d.before a0 Z = true) (ws : List Jvm.Cond) (o0 : Addr) (ta : Addr) (kt : ClassId) (x0 x1 qv : UInt64) (st sp : Int64) (sh : Int32) (h0 : Heap) (n0 : Nat) (Z0 : n0 ≤ h0.size) (E0 : Exa Z h0 o0 "com/example/dialtone/dialtone/workload/Workers$Sharing") (g_o0 : n0 ≤ o0) (g_ta : n0 ≤ ta) (ne_ta_o0 : ta ≠ o0) (P_nanosPerStep : Fld Z h0 o0 "com/example/dialtone/dialtone/workload/Workers$Sharing" "nanosPerStep" "[D" (.ref ta)) (P_rounds : Fld Z h0 o0 "com/example/dialtone/dialtone/workload/Workers$Sharing" "rounds" "J" (.long (0 : Int64))) (P_otherWay : Fld Z h0 o0 "com/example/dialtone/dialtone/workload/Workers$Sharing" "otherWay" "Z" (.int (0 : Int32))) (P_started : Fld Z h0 o0 "com/example/dialtone/dialtone/workload/Workers$Sharing" "started" "J" (.long st)) (P_shared : Fld Z h0 o0 "com/example/dialtone/dialtone/workload/Workers$Sharing" "shared" "Z" (.int sh)) (P_steps : Fld Z h0 o0 "com/example/dialtone/dialtone/workload/Workers$Sharing" "steps" "J" (.long sp)) (P_sharedOverUnshared : Fld Z h0 o0 "com/example/dialtone/dialtone/workload/Workers$Sharing" "sharedOverUnshared" "D" (.double qv)) (VT : Arv Z h0 ta kt .double (2 : Int32) [(.double x0), (.double x1)] (.double (0 : UInt64))) :
    MetFree l (⟨"com/example/dialtone/dialtone/workload/Workers$Sharing", "shares", "()Z"⟩ : MethodName) (head1 (Jvm.Cond.code (⟨"com/example/dialtone/dialtone/workload/Workers$Sharing", "shares", "()Z"⟩ : MethodName) prog_268_method_2_code 2 (some .boolean) :: ws) ({ frames := 0, cells := 0, slots := 0, locals := 0 } : Room)) (fun a U => a = #[(.ref o0)] ∧ Z.Warmed39 U.vm ∧ U.heap = h0) (fun _ _ _ _ _ => True) (fun _ U o U' => ∃ v L, o = .returned v ∧ Q_rm3_0 Z o0 ta kt x0 x1 qv st sp sh h0 n0 v U'.heap L ∧ FrameEnd U o U' L ({ frames := 0, cells := 0, slots := 0, locals := 0 } : Room).cells ({ frames := 0, cells := 0, slots := 0, locals := 0 } : Room).slots) := by
  refine MetFree.of_bodySF (plainFor_of_name pn_com_example_dialtone_dialtone_workload_Workers_Sharing) hisR ?_
  intro p e s m args below meth c s₁ Bd hml0 hP hK
  obtain ⟨rfl, hZ, hh⟩ := hP
  have hx := Bd.exec
  have hby := Bd.bytes
  have hlk := BodyLoose.notSynchronized Bd
  have hrt := Bd.returns
  have hml : c.maxLocals = 2 := hml0
  have hown : s.vm.findClass "com/example/dialtone/dialtone/workload/Workers$Sharing" = some m.cls := findClass_of_methodNamed Bd.named
  have hnm := (name_of_methodNamed Bd.named Bd.method).1
  have X0 : Stand p l e ({ frames := 0, cells := 0, slots := 0, locals := 0 } : Room) s m #[(.ref o0)] below meth c s₁ [] 0 0 := Stand.of_body Bd
  have e0 : s₁.heap = h0 := by rw [← hh, Bd.state]; rfl
  have N0 := Fr.nil n0
  have K0 : Keep h0 h0 [o0] := Keep.refl h0 _
  show Runs p e below (QE s (Q_rm3_0 Z o0 ta kt x0 x1 qv st sp sh h0 n0) ({ frames := 0, cells := 0, slots := 0, locals := 0 } : Room).cells ({ frames := 0, cells := 0, slots := 0, locals := 0 } : Room).slots) (s₁.setTop (entryFrame m #[(.ref o0)] 2))
  rw [ef_3_2 m o0]
  refine Runs.by (fun _ hr => XS.aloadN X0.here hx rfl (hb hby d3_0) rfl rfl hr) ?_
  refine Runs.by (fun _ hr => XS.dup X0.here hx rfl (hb hby d3_1) rfl rfl hr) ?_
  show Runs p e below _ (s₁.setTop (mkF m 2 #[.val (.ref o0), .unset] [(.ref o0), (.ref o0)]))
  obtain ⟨T1, X1, e1, st1⟩ := getF X0 hx hZ hown (host := "") (Or.inl (hw _ (List.mem_of_getElem? (i := 18) rfl))) Via.refl e0 P_rounds (g := (mkF m 2 #[.val (.ref o0), .unset] [(.ref o0), (.ref o0)])) rfl rfl (hb hby d3_2)
  refine Runs.by st1 ?_
  refine Runs.by (fun _ hr => XS.lconst X1.here hx rfl (hb hby d3_5) hr) ?_
  refine Runs.by (fun _ hr => XS.ladd X1.here hx rfl (hb hby d3_6) rfl hr) ?_
  show Runs p e below _ (T1.setTop (mkF m 7 #[.val (.ref o0), .unset] [(.long (1 : Int64)), (.ref o0)]))
  obtain ⟨T2, h2, X2, e2, W2, st2⟩ := putF X1 hx hZ hown (host := "") (Or.inl (hw _ (List.mem_of_getElem? (i := 18) rfl))) Via.refl e1 P_rounds E0 (Or.inl (hw _ (List.mem_of_getElem? (i := 19) rfl))) (hw _ (List.mem_of_getElem? (i := 2) rfl)) (ty := .long) (by decide) rfl rfl (g := (mkF m 7 #[.val (.ref o0), .unset] [(.long (1 : Int64)), (.ref o0)])) rfl rfl (hb hby d3_7)
  have Fw2 := P_rounds.same W2
  have K3 : Keep h0 h2 [o0] := K0.wr W2 (Or.inl (List.mem_of_getElem? (i := 0) rfl))
  have N2 := Fr.snoc X2 N0 g_o0
  refine Runs.by st2 ?_
  refine Runs.by (fun _ hr => XS.aloadN X2.here hx rfl (hb hby d3_10) rfl rfl hr) ?_
  show Runs p e below _ (T2.setTop (mkF m 11 #[.val (.ref o0), .unset] [(.ref o0)]))
  obtain ⟨T4, X4, e4, st4⟩ := getF X2 hx hZ hown (host := "") (Or.inl (hw _ (List.mem_of_getElem? (i := 11) rfl))) Via.refl e2 (P_nanosPerStep.other W2 (Or.inr (slot_ne (Or.inr (hw _ (List.mem_of_getElem? (i := 12) rfl))) (Or.inl (hw _ (List.mem_of_getElem? (i := 19) rfl))) (by decide) (t := (.array .double)) (t' := .long) (by decide) (by decide)))) (g := (mkF m 11 #[.val (.ref o0), .unset] [(.ref o0)])) rfl rfl (hb hby d3_11)
  refine Runs.by st4 ?_
  refine Runs.by (fun _ hr => XS.iconst X4.here hx rfl (hb hby d3_14) hr) ?_
  show Runs p e below _ (T4.setTop (mkF m 15 #[.val (.ref o0), .unset] [(.int (0 : Int32)), (.ref ta)]))
  obtain ⟨cl5, Ar5, -, S5, N5', H5, -⟩ := id (VT.other W2 ne_ta_o0)
  have hin5 : ¬ ((0 : Int32) < 0 ∨ cl5.slots.size ≤ ((0 : Int32)).toNatClampNeg) := inb_of S5 ⟨by decide, by decide⟩
  have hat5 := H5.at hin5 (v := (.double x0)) rfl
  refine Runs.by (fun t hr => X4.daload hx (j := (0 : Int32)) (v := (.double x0)) (by rw [e4]; exact Ar5.1) (State.isArrayOf_alike hZ.alike Ar5.2.1) Ar5.2.2 hin5 hat5 (g := (mkF m 15 #[.val (.ref o0), .unset] [(.int (0 : Int32)), (.ref ta)])) rfl rfl (hb hby d3_15) t hr) ?_
  refine Runs.by (fun _ hr => XS.dconst0 X4.here hx rfl (hb hby d3_16) rfl hr) ?_
  show Runs p e below _ (T4.setTop (mkF m 17 #[.val (.ref o0), .unset] [(.double FP.dconst0), (.double x0)]))
  refine Runs.by (fun _ hr => XS.dcmpS X4.here hx rfl (hb hby d3_17) rfl rfl hr) ?_
  by_cases hc18 : (cmpValue (FP.dcmp x0 FP.dconst0) .l) = (0 : Int32)
  · -- pc 18: (cmpValue (FP.dcmp x0 FP.dconst0) .l) = (0 : Int32)
    refine Runs.by (fun _ hr => XS.ifYes X4.here hx rfl (pc0 := 18) (pc' := 32) rfl (hb hby d3_18) rfl ((if0 _ _).trans (teq hc18).1) (by decide) (by decide) hr) ?_
    refine Runs.by (fun _ hr => XS.aloadN X4.here hx rfl (hb hby d3_32) rfl rfl hr) ?_
    show Runs p e below _ (T4.setTop (mkF m 33 #[.val (.ref o0), .unset] [(.ref o0)]))
    obtain ⟨T6, X6, e6, st6⟩ := getF X4 hx hZ hown (host := "") (Or.inl (hw _ (List.mem_of_getElem? (i := 11) rfl))) Via.refl e4 (P_nanosPerStep.other W2 (Or.inr (slot_ne (Or.inr (hw _ (List.mem_of_getElem? (i := 12) rfl))) (Or.inl (hw _ (List.mem_of_getElem? (i := 19) rfl))) (by decide) (t := (.array .double)) (t' := .long) (by decide) (by decide)))) (g := (mkF m 33 #[.val (.ref o0), .unset] [(.ref o0)])) rfl rfl (hb hby d3_33)
    refine Runs.by st6 ?_
    refine Runs.by (fun _ hr => XS.iconst X6.here hx rfl (hb hby d3_36) hr) ?_
    show Runs p e below _ (T6.setTop (mkF m 37 #[.val (.ref o0), .unset] [(.int (0 : Int32)), (.ref ta)]))
    obtain ⟨cl7, Ar7, -, S7, N7', H7, -⟩ := id (VT.other W2 ne_ta_o0)
    have hin7 : ¬ ((0 : Int32) < 0 ∨ cl7.slots.size ≤ ((0 : Int32)).toNatClampNeg) := inb_of S7 ⟨by decide, by decide⟩
    have hat7 := H7.at hin7 (v := (.double x0)) rfl
    refine Runs.by (fun t hr => X6.daload hx (j := (0 : Int32)) (v := (.double x0)) (by rw [e6]; exact Ar7.1) (State.isArrayOf_alike hZ.alike Ar7.2.1) Ar7.2.2 hin7 hat7 (g := (mkF m 37 #[.val (.ref o0), .unset] [(.int (0 : Int32)), (.ref ta)])) rfl rfl (hb hby d3_37) t hr) ?_
    refine Runs.by (fun _ hr => XS.dconst0 X6.here hx rfl (hb hby d3_38) rfl hr) ?_
    show Runs p e below _ (T6.setTop (mkF m 39 #[.val (.ref o0), .unset] [(.double FP.dconst0), (.double x0)]))
    refine Runs.by (fun _ hr => XS.dcmpS X6.here hx rfl (hb hby d3_39) rfl rfl hr) ?_
    have hc40 : (cmpValue (FP.dcmp x0 FP.dconst0) .l) = (0 : Int32) := hc18
    refine Runs.by (fun _ hr => XS.ifYes X6.here hx rfl (pc0 := 40) (pc' := 47) rfl (hb hby d3_40) rfl ((if0 _ _).trans (teq hc40).1) (by decide) (by decide) hr) ?_
    refine Runs.by (fun _ hr => XS.iconst X6.here hx rfl (hb hby d3_47) hr) ?_
    show Runs p e below _ (T6.setTop (mkF m 48 #[.val (.ref o0), .unset] [(.int (0 : Int32))]))
    refine Runs.by (fun _ hr => XS.istoreN X6.here hx rfl (hb hby d3_48) rfl (l' := #[.val (.ref o0), .val (.int (0 : Int32))]) rfl hr) ?_
    refine Runs.by (fun _ hr => XS.aloadN X6.here hx rfl (hb hby d3_49) rfl rfl hr) ?_
    refine Runs.by (fun _ hr => XS.iconst X6.here hx rfl (hb hby d3_50) hr) ?_
    show Runs p e below _ (T6.setTop (mkF m 51 #[.val (.ref o0), .val (.int (0 : Int32))] [(.int (0 : Int32)), (.ref o0)]))
    obtain ⟨T8, h8, X8, e8, W8, st8⟩ := putFN X6 hx hZ hown (hw _ (List.mem_of_getElem? (i := 20) rfl)) Via.refl e6 (P_otherWay.other W2 (Or.inr (slot_ne (Or.inl (hw _ (List.mem_of_getElem? (i := 21) rfl))) (Or.inl (hw _ (List.mem_of_getElem? (i := 19) rfl))) (by decide) (t := .boolean) (t' := .long) (by decide) (by decide)))) (E0.wr W2) (Or.inl (hw _ (List.mem_of_getElem? (i := 21) rfl))) (hw _ (List.mem_of_getElem? (i := 2) rfl)) (ty := .boolean) (v' := (.int (0 : Int32))) (by decide) rfl (by first | rfl | exact fits_nar_bool _) (g := (mkF m 51 #[.val (.ref o0), .val (.int (0 : Int32))] [(.int (0 : Int32)), (.ref o0)])) rfl rfl (hb hby d3_51)
    have Fw8 := (P_otherWay.other W2 (Or.inr (slot_ne (Or.inl (hw _ (List.mem_of_getElem? (i := 21) rfl))) (Or.inl (hw _ (List.mem_of_getElem? (i := 19) rfl))) (by decide) (t := .boolean) (t' := .long) (by decide) (by decide)))).same W8
    have K9 : Keep h0 h8 [o0] := K3.wr W8 (Or.inl (List.mem_of_getElem? (i := 0) rfl))
    have N8 := Fr.snoc X8 N2 g_o0
    refine Runs.by st8 ?_
    refine Runs.by (fun _ hr => XS.goto X8.here hx rfl (pc0 := 54) (pc' := 108) rfl (hb hby d3_54) (by decide) (by decide) hr) ?_
    refine Runs.by (fun _ hr => XS.iloadN X8.here hx rfl (hb hby d3_108) rfl  hr) ?_
    show Runs p e below _ (T8.setTop (mkF m 109 #[.val (.ref o0), .val (.int (0 : Int32))] [(.int (0 : Int32))]))
    refine Runs.ret X8 hx hrt hlk (Or.inl ⟨rfl, by simp, _, rfl⟩) (by rfl) (hb hby d3_109) (by decide) (by decide) ?_
    rw [e8]
    exact ⟨congrArg (fun z => some (Value.int z)) (Eq.symm (by rw [if_pos hc18])), N8, K9, ((E0.wr W2).wr W8), ((P_nanosPerStep.other W2 (Or.inr (slot_ne (Or.inr (hw _ (List.mem_of_getElem? (i := 12) rfl))) (Or.inl (hw _ (List.mem_of_getElem? (i := 19) rfl))) (by decide) (t := (.array .double)) (t' := .long) (by decide) (by decide)))).other W8 (Or.inr (slot_ne (Or.inr (hw _ (List.mem_of_getElem? (i := 12) rfl))) (Or.inl (hw _ (List.mem_of_getElem? (i := 21) rfl))) (by decide) (t := (.array .double)) (t' := .boolean) (by decide) (by decide)))), (Fw2.other W8 (Or.inr (slot_ne (Or.inl (hw _ (List.mem_of_getElem? (i := 19) rfl))) (Or.inl (hw _ (List.mem_of_getElem? (i := 21) rfl))) (by decide) (t := .long) (t' := .boolean) (by decide) (by decide)))), Fw8, ((P_started.other W2 (Or.inr (slot_ne (Or.inl (hw _ (List.mem_of_getElem? (i := 28) rfl))) (Or.inl (hw _ (List.mem_of_getElem? (i := 19) rfl))) (by decide) (t := .long) (t' := .long) (by decide) (by decide)))).other W8 (Or.inr (slot_ne (Or.inl (hw _ (List.mem_of_getElem? (i := 28) rfl))) (Or.inl (hw _ (List.mem_of_getElem? (i := 21) rfl))) (by decide) (t := .long) (t' := .boolean) (by decide) (by decide)))), ((P_shared.other W2 (Or.inr (slot_ne (Or.inl (hw _ (List.mem_of_getElem? (i := 30) rfl))) (Or.inl (hw _ (List.mem_of_getElem? (i := 19) rfl))) (by decide) (t := .boolean) (t' := .long) (by decide) (by decide)))).other W8 (Or.inr (slot_ne (Or.inl (hw _ (List.mem_of_getElem? (i := 30) rfl))) (Or.inl (hw _ (List.mem_of_getElem? (i := 21) rfl))) (by decide) (t := .boolean) (t' := .boolean) (by decide) (by decide)))), ((P_steps.other W2 (Or.inr (slot_ne (Or.inl (hw _ (List.mem_of_getElem? (i := 32) rfl))) (Or.inl (hw _ (List.mem_of_getElem? (i := 19) rfl))) (by decide) (t := .long) (t' := .long) (by decide) (by decide)))).other W8 (Or.inr (slot_ne (Or.inl (hw _ (List.mem_of_getElem? (i := 32) rfl))) (Or.inl (hw _ (List.mem_of_getElem? (i := 21) rfl))) (by decide) (t := .long) (t' := .boolean) (by decide) (by decide)))), ((P_sharedOverUnshared.other W2 (Or.inr (slot_ne (Or.inl (hw _ (List.mem_of_getElem? (i := 47) rfl))) (Or.inl (hw _ (List.mem_of_getElem? (i := 19) rfl))) (by decide) (t := .double) (t' := .long) (by decide) (by decide)))).other W8 (Or.inr (slot_ne (Or.inl (hw _ (List.mem_of_getElem? (i := 47) rfl))) (Or.inl (hw _ (List.mem_of_getElem? (i := 21) rfl))) (by decide) (t := .double) (t' := .boolean) (by decide) (by decide)))), ((VT.other W2 ne_ta_o0).other W8 ne_ta_o0)⟩
  · -- pc 18: not (cmpValue (FP.dcmp x0 FP.dconst0) .l) = (0 : Int32)
    refine Runs.by (fun _ hr => XS.ifNo X4.here hx rfl (hb hby d3_18) rfl ((if0 _ _).trans (feq hc18).1) hr) ?_
    refine Runs.by (fun _ hr => XS.aloadN X4.here hx rfl (hb hby d3_21) rfl rfl hr) ?_
    show Runs p e below _ (T4.setTop (mkF m 22 #[.val (.ref o0), .unset] [(.ref o0)]))
    obtain ⟨T10, X10, e10, st10⟩ := getF X4 hx hZ hown (host := "") (Or.inl (hw _ (List.mem_of_getElem? (i := 11) rfl))) Via.refl e4 (P_nanosPerStep.other W2 (Or.inr (slot_ne (Or.inr (hw _ (List.mem_of_getElem? (i := 12) rfl))) (Or.inl (hw _ (List.mem_of_getElem? (i := 19) rfl))) (by decide) (t := (.array .double)) (t' := .long) (by decide) (by decide)))) (g := (mkF m 22 #[.val (.ref o0), .unset] [(.ref o0)])) rfl rfl (hb hby d3_22)
    refine Runs.by st10 ?_
    refine Runs.by (fun _ hr => XS.iconst X10.here hx rfl (hb hby d3_25) hr) ?_
    show Runs p e below _ (T10.setTop (mkF m 26 #[.val (.ref o0), .unset] [(.int (1 : Int32)), (.ref ta)]))
    obtain ⟨cl11, Ar11, -, S11, N11', H11, -⟩ := id (VT.other W2 ne_ta_o0)
    have hin11 : ¬ ((1 : Int32) < 0 ∨ cl11.slots.size ≤ ((1 : Int32)).toNatClampNeg) := inb_of S11 ⟨by decide, by decide⟩
    have hat11 := H11.at hin11 (v := (.double x1)) rfl
    refine Runs.by (fun t hr => X10.daload hx (j := (1 : Int32)) (v := (.double x1)) (by rw [e10]; exact Ar11.1) (State.isArrayOf_alike hZ.alike Ar11.2.1) Ar11.2.2 hin11 hat11 (g := (mkF m 26 #[.val (.ref o0), .unset] [(.int (1 : Int32)), (.ref ta)])) rfl rfl (hb hby d3_26) t hr) ?_
    refine Runs.by (fun _ hr => XS.dconst0 X10.here hx rfl (hb hby d3_27) rfl hr) ?_
    show Runs p e below _ (T10.setTop (mkF m 28 #[.val (.ref o0), .unset] [(.double FP.dconst0), (.double x1)]))
    refine Runs.by (fun _ hr => XS.dcmpS X10.here hx rfl (hb hby d3_28) rfl rfl hr) ?_
    by_cases hc29 : (cmpValue (FP.dcmp x1 FP.dconst0) .l) = (0 : Int32)
    · -- pc 29: (cmpValue (FP.dcmp x1 FP.dconst0) .l) = (0 : Int32)
      refine Runs.by (fun _ hr => XS.ifNo X10.here hx rfl (hb hby d3_29) rfl ((if0 _ _).trans (teq hc29).2) hr) ?_
      refine Runs.by (fun _ hr => XS.aloadN X10.here hx rfl (hb hby d3_32) rfl rfl hr) ?_
      show Runs p e below _ (T10.setTop (mkF m 33 #[.val (.ref o0), .unset] [(.ref o0)]))
      obtain ⟨T12, X12, e12, st12⟩ := getF X10 hx hZ hown (host := "") (Or.inl (hw _ (List.mem_of_getElem? (i := 11) rfl))) Via.refl e10 (P_nanosPerStep.other W2 (Or.inr (slot_ne (Or.inr (hw _ (List.mem_of_getElem? (i := 12) rfl))) (Or.inl (hw _ (List.mem_of_getElem? (i := 19) rfl))) (by decide) (t := (.array .double)) (t' := .long) (by decide) (by decide)))) (g := (mkF m 33 #[.val (.ref o0), .unset] [(.ref o0)])) rfl rfl (hb hby d3_33)
      refine Runs.by st12 ?_
      refine Runs.by (fun _ hr => XS.iconst X12.here hx rfl (hb hby d3_36) hr) ?_
      show Runs p e below _ (T12.setTop (mkF m 37 #[.val (.ref o0), .unset] [(.int (0 : Int32)), (.ref ta)]))
      obtain ⟨cl13, Ar13, -, S13, N13', H13, -⟩ := id (VT.other W2 ne_ta_o0)
      have hin13 : ¬ ((0 : Int32) < 0 ∨ cl13.slots.size ≤ ((0 : Int32)).toNatClampNeg) := inb_of S13 ⟨by decide, by decide⟩
      have hat13 := H13.at hin13 (v := (.double x0)) rfl
      refine Runs.by (fun t hr => X12.daload hx (j := (0 : Int32)) (v := (.double x0)) (by rw [e12]; exact Ar13.1) (State.isArrayOf_alike hZ.alike Ar13.2.1) Ar13.2.2 hin13 hat13 (g := (mkF m 37 #[.val (.ref o0), .unset] [(.int (0 : Int32)), (.ref ta)])) rfl rfl (hb hby d3_37) t hr) ?_
      refine Runs.by (fun _ hr => XS.dconst0 X12.here hx rfl (hb hby d3_38) rfl hr) ?_
      show Runs p e below _ (T12.setTop (mkF m 39 #[.val (.ref o0), .unset] [(.double FP.dconst0), (.double x0)]))
      refine Runs.by (fun _ hr => XS.dcmpS X12.here hx rfl (hb hby d3_39) rfl rfl hr) ?_
      have hc40 : ¬ ((cmpValue (FP.dcmp x0 FP.dconst0) .l) = (0 : Int32)) := hc18
      refine Runs.by (fun _ hr => XS.ifNo X12.here hx rfl (hb hby d3_40) rfl ((if0 _ _).trans (feq hc40).1) hr) ?_
      refine Runs.by (fun _ hr => XS.iconst X12.here hx rfl (hb hby d3_43) hr) ?_
      show Runs p e below _ (T12.setTop (mkF m 44 #[.val (.ref o0), .unset] [(.int (1 : Int32))]))
      refine Runs.by (fun _ hr => XS.goto X12.here hx rfl (pc0 := 44) (pc' := 48) rfl (hb hby d3_44) (by decide) (by decide) hr) ?_
      refine Runs.by (fun _ hr => XS.istoreN X12.here hx rfl (hb hby d3_48) rfl (l' := #[.val (.ref o0), .val (.int (1 : Int32))]) rfl hr) ?_
      refine Runs.by (fun _ hr => XS.aloadN X12.here hx rfl (hb hby d3_49) rfl rfl hr) ?_
      show Runs p e below _ (T12.setTop (mkF m 50 #[.val (.ref o0), .val (.int (1 : Int32))] [(.ref o0)]))
      refine Runs.by (fun _ hr => XS.iconst X12.here hx rfl (hb hby d3_50) hr) ?_
      show Runs p e below _ (T12.setTop (mkF m 51 #[.val (.ref o0), .val (.int (1 : Int32))] [(.int (0 : Int32)), (.ref o0)]))
      obtain ⟨T14, h14, X14, e14, W14, st14⟩ := putFN X12 hx hZ hown (hw _ (List.mem_of_getElem? (i := 20) rfl)) Via.refl e12 (P_otherWay.other W2 (Or.inr (slot_ne (Or.inl (hw _ (List.mem_of_getElem? (i := 21) rfl))) (Or.inl (hw _ (List.mem_of_getElem? (i := 19) rfl))) (by decide) (t := .boolean) (t' := .long) (by decide) (by decide)))) (E0.wr W2) (Or.inl (hw _ (List.mem_of_getElem? (i := 21) rfl))) (hw _ (List.mem_of_getElem? (i := 2) rfl)) (ty := .boolean) (v' := (.int (0 : Int32))) (by decide) rfl (by first | rfl | exact fits_nar_bool _) (g := (mkF m 51 #[.val (.ref o0), .val (.int (1 : Int32))] [(.int (0 : Int32)), (.ref o0)])) rfl rfl (hb hby d3_51)
      have Fw14 := (P_otherWay.other W2 (Or.inr (slot_ne (Or.inl (hw _ (List.mem_of_getElem? (i := 21) rfl))) (Or.inl (hw _ (List.mem_of_getElem? (i := 19) rfl))) (by decide) (t := .boolean) (t' := .long) (by decide) (by decide)))).same W14
      have K15 : Keep h0 h14 [o0] := K3.wr W14 (Or.inl (List.mem_of_getElem? (i := 0) rfl))
      have N14 := Fr.snoc X14 N2 g_o0
      refine Runs.by st14 ?_
      refine Runs.by (fun _ hr => XS.goto X14.here hx rfl (pc0 := 54) (pc' := 108) rfl (hb hby d3_54) (by decide) (by decide) hr) ?_
      refine Runs.by (fun _ hr => XS.iloadN X14.here hx rfl (hb hby d3_108) rfl  hr) ?_
      show Runs p e below _ (T14.setTop (mkF m 109 #[.val (.ref o0), .val (.int (1 : Int32))] [(.int (1 : Int32))]))
      refine Runs.ret X14 hx hrt hlk (Or.inl ⟨rfl, by simp, _, rfl⟩) (by rfl) (hb hby d3_109) (by decide) (by decide) ?_
      rw [e14]
      exact ⟨congrArg (fun z => some (Value.int z)) (Eq.symm (by rw [if_neg hc18, if_pos hc29])), N14, K15, ((E0.wr W2).wr W14), ((P_nanosPerStep.other W2 (Or.inr (slot_ne (Or.inr (hw _ (List.mem_of_getElem? (i := 12) rfl))) (Or.inl (hw _ (List.mem_of_getElem? (i := 19) rfl))) (by decide) (t := (.array .double)) (t' := .long) (by decide) (by decide)))).other W14 (Or.inr (slot_ne (Or.inr (hw _ (List.mem_of_getElem? (i := 12) rfl))) (Or.inl (hw _ (List.mem_of_getElem? (i := 21) rfl))) (by decide) (t := (.array .double)) (t' := .boolean) (by decide) (by decide)))), (Fw2.other W14 (Or.inr (slot_ne (Or.inl (hw _ (List.mem_of_getElem? (i := 19) rfl))) (Or.inl (hw _ (List.mem_of_getElem? (i := 21) rfl))) (by decide) (t := .long) (t' := .boolean) (by decide) (by decide)))), Fw14, ((P_started.other W2 (Or.inr (slot_ne (Or.inl (hw _ (List.mem_of_getElem? (i := 28) rfl))) (Or.inl (hw _ (List.mem_of_getElem? (i := 19) rfl))) (by decide) (t := .long) (t' := .long) (by decide) (by decide)))).other W14 (Or.inr (slot_ne (Or.inl (hw _ (List.mem_of_getElem? (i := 28) rfl))) (Or.inl (hw _ (List.mem_of_getElem? (i := 21) rfl))) (by decide) (t := .long) (t' := .boolean) (by decide) (by decide)))), ((P_shared.other W2 (Or.inr (slot_ne (Or.inl (hw _ (List.mem_of_getElem? (i := 30) rfl))) (Or.inl (hw _ (List.mem_of_getElem? (i := 19) rfl))) (by decide) (t := .boolean) (t' := .long) (by decide) (by decide)))).other W14 (Or.inr (slot_ne (Or.inl (hw _ (List.mem_of_getElem? (i := 30) rfl))) (Or.inl (hw _ (List.mem_of_getElem? (i := 21) rfl))) (by decide) (t := .boolean) (t' := .boolean) (by decide) (by decide)))), ((P_steps.other W2 (Or.inr (slot_ne (Or.inl (hw _ (List.mem_of_getElem? (i := 32) rfl))) (Or.inl (hw _ (List.mem_of_getElem? (i := 19) rfl))) (by decide) (t := .long) (t' := .long) (by decide) (by decide)))).other W14 (Or.inr (slot_ne (Or.inl (hw _ (List.mem_of_getElem? (i := 32) rfl))) (Or.inl (hw _ (List.mem_of_getElem? (i := 21) rfl))) (by decide) (t := .long) (t' := .boolean) (by decide) (by decide)))), ((P_sharedOverUnshared.other W2 (Or.inr (slot_ne (Or.inl (hw _ (List.mem_of_getElem? (i := 47) rfl))) (Or.inl (hw _ (List.mem_of_getElem? (i := 19) rfl))) (by decide) (t := .double) (t' := .long) (by decide) (by decide)))).other W14 (Or.inr (slot_ne (Or.inl (hw _ (List.mem_of_getElem? (i := 47) rfl))) (Or.inl (hw _ (List.mem_of_getElem? (i := 21) rfl))) (by decide) (t := .double) (t' := .boolean) (by decide) (by decide)))), ((VT.other W2 ne_ta_o0).other W14 ne_ta_o0)⟩
    · -- pc 29: not (cmpValue (FP.dcmp x1 FP.dconst0) .l) = (0 : Int32)
      refine Runs.by (fun _ hr => XS.ifYes X10.here hx rfl (pc0 := 29) (pc' := 57) rfl (hb hby d3_29) rfl ((if0 _ _).trans (feq hc29).2) (by decide) (by decide) hr) ?_
      refine Runs.by (fun _ hr => XS.aloadN X10.here hx rfl (hb hby d3_57) rfl rfl hr) ?_
      show Runs p e below _ (T10.setTop (mkF m 58 #[.val (.ref o0), .unset] [(.ref o0)]))
      refine Runs.by (fun _ hr => XS.aloadN X10.here hx rfl (hb hby d3_58) rfl rfl hr) ?_
      show Runs p e below _ (T10.setTop (mkF m 59 #[.val (.ref o0), .unset] [(.ref o0), (.ref o0)]))
      obtain ⟨T16, X16, e16, st16⟩ := getF X10 hx hZ hown (host := "") (Or.inl (hw _ (List.mem_of_getElem? (i := 18) rfl))) Via.refl e10 Fw2 (g := (mkF m 59 #[.val (.ref o0), .unset] [(.ref o0), (.ref o0)])) rfl rfl (hb hby d3_59)
      refine Runs.by st16 ?_
      show Runs p e below _ (T16.setTop (mkF m 62 #[.val (.ref o0), .unset] [(.long (1 : Int64)), (.ref o0)]))
      refine Runs.by (fun _ hr => X16.ldc2J hx hown (mvT hZ (hw _ (List.mem_of_getElem? (i := 49) rfl))) (g := (mkF m 62 #[.val (.ref o0), .unset] [(.long (1 : Int64)), (.ref o0)])) rfl (hb hby d3_62) hr) ?_
      show Runs p e below _ (T16.setTop (mkF m 65 #[.val (.ref o0), .unset] [(.long (64 : Int64)), (.long (1 : Int64)), (.ref o0)]))
      refine Runs.by (fun _ hr => XS.lrem X16.here hx rfl (hb hby d3_65) rfl (by decide) hr) ?_
      refine Runs.by (fun _ hr => XS.lconst X16.here hx rfl (hb hby d3_66) hr) ?_
      refine Runs.by (fun _ hr => XS.lcmp X16.here hx rfl (hb hby d3_67) rfl hr) ?_
      show Runs p e below _ (T16.setTop (mkF m 68 #[.val (.ref o0), .unset] [(.int (lcmpW ((1 : Int64) % (64 : Int64)) (0 : Int64))), (.ref o0)]))
      have hc68 : ¬ ((lcmpW ((1 : Int64) % (64 : Int64)) (0 : Int64)) = (0 : Int32)) := (by decide)
      refine Runs.by (fun _ hr => XS.ifYes X16.here hx rfl (pc0 := 68) (pc' := 75) rfl (hb hby d3_68) rfl ((if0 _ _).trans (feq hc68).2) (by decide) (by decide) hr) ?_
      refine Runs.by (fun _ hr => XS.iconst X16.here hx rfl (hb hby d3_75) hr) ?_
      show Runs p e below _ (T16.setTop (mkF m 76 #[.val (.ref o0), .unset] [(.int (0 : Int32)), (.ref o0)]))
      obtain ⟨T17, h17, X17, e17, W17, st17⟩ := putFN X16 hx hZ hown (hw _ (List.mem_of_getElem? (i := 20) rfl)) Via.refl e16 (P_otherWay.other W2 (Or.inr (slot_ne (Or.inl (hw _ (List.mem_of_getElem? (i := 21) rfl))) (Or.inl (hw _ (List.mem_of_getElem? (i := 19) rfl))) (by decide) (t := .boolean) (t' := .long) (by decide) (by decide)))) (E0.wr W2) (Or.inl (hw _ (List.mem_of_getElem? (i := 21) rfl))) (hw _ (List.mem_of_getElem? (i := 2) rfl)) (ty := .boolean) (v' := (.int (0 : Int32))) (by decide) rfl (by first | rfl | exact fits_nar_bool _) (g := (mkF m 76 #[.val (.ref o0), .unset] [(.int (0 : Int32)), (.ref o0)])) rfl rfl (hb hby d3_76)
      have Fw17 := (P_otherWay.other W2 (Or.inr (slot_ne (Or.inl (hw _ (List.mem_of_getElem? (i := 21) rfl))) (Or.inl (hw _ (List.mem_of_getElem? (i := 19) rfl))) (by decide) (t := .boolean) (t' := .long) (by decide) (by decide)))).same W17
      have K18 : Keep h0 h17 [o0] := K3.wr W17 (Or.inl (List.mem_of_getElem? (i := 0) rfl))
      have N17 := Fr.snoc X17 N2 g_o0
      refine Runs.by st17 ?_
      refine Runs.by (fun _ hr => XS.aloadN X17.here hx rfl (hb hby d3_79) rfl rfl hr) ?_
      show Runs p e below _ (T17.setTop (mkF m 80 #[.val (.ref o0), .unset] [(.ref o0)]))
      obtain ⟨T19, X19, e19, st19⟩ := getF X17 hx hZ hown (host := "") (Or.inl (hw _ (List.mem_of_getElem? (i := 46) rfl))) Via.refl e17 ((P_sharedOverUnshared.other W2 (Or.inr (slot_ne (Or.inl (hw _ (List.mem_of_getElem? (i := 47) rfl))) (Or.inl (hw _ (List.mem_of_getElem? (i := 19) rfl))) (by decide) (t := .double) (t' := .long) (by decide) (by decide)))).other W17 (Or.inr (slot_ne (Or.inl (hw _ (List.mem_of_getElem? (i := 47) rfl))) (Or.inl (hw _ (List.mem_of_getElem? (i := 21) rfl))) (by decide) (t := .double) (t' := .boolean) (by decide) (by decide)))) (g := (mkF m 80 #[.val (.ref o0), .unset] [(.ref o0)])) rfl rfl (hb hby d3_80)
      refine Runs.by st19 ?_
      show Runs p e below _ (T19.setTop (mkF m 83 #[.val (.ref o0), .unset] [(.double qv)]))
      refine Runs.by (fun t hr => X19.ldc2DoubleC hx hown (mvT hZ (hw _ (List.mem_of_getElem? (i := 50) rfl))) (g := (mkF m 83 #[.val (.ref o0), .unset] [(.double qv)])) rfl (hb hby d3_83) t hr) ?_
      show Runs p e below _ (T19.setTop (mkF m 86 #[.val (.ref o0), .unset] [(.double (4606281698874543309 : UInt64)), (.double qv)]))
      refine Runs.by (fun _ hr => XS.dcmpS X19.here hx rfl (hb hby d3_86) rfl rfl hr) ?_
      by_cases hc87 : (0 : Int32) < (cmpValue (FP.dcmp qv (4606281698874543309 : UInt64)) .g)
      · -- pc 87: (0 : Int32) < (cmpValue (FP.dcmp qv (4606281698874543309 : UInt64)) .g)
        refine Runs.by (fun _ hr => XS.ifYes X19.here hx rfl (pc0 := 87) (pc' := 94) rfl (hb hby d3_87) rfl ((if0 _ _).trans (tlt hc87).2.2.1) (by decide) (by decide) hr) ?_
        refine Runs.by (fun _ hr => XS.iconst X19.here hx rfl (hb hby d3_94) hr) ?_
        show Runs p e below _ (T19.setTop (mkF m 95 #[.val (.ref o0), .unset] [(.int (0 : Int32))]))
        refine Runs.by (fun _ hr => XS.aloadN X19.here hx rfl (hb hby d3_95) rfl rfl hr) ?_
        show Runs p e below _ (T19.setTop (mkF m 96 #[.val (.ref o0), .unset] [(.ref o0), (.int (0 : Int32))]))
        obtain ⟨T20, X20, e20, st20⟩ := getF X19 hx hZ hown (host := "") (Or.inl (hw _ (List.mem_of_getElem? (i := 20) rfl))) Via.refl e19 Fw17 (g := (mkF m 96 #[.val (.ref o0), .unset] [(.ref o0), (.int (0 : Int32))])) rfl rfl (hb hby d3_96)
        refine Runs.by st20 ?_
        have hc99 : (0 : Int32) = (0 : Int32) := (by decide)
        refine Runs.by (fun _ hr => XS.icmpYes X20.here hx rfl (pc0 := 99) (pc' := 106) rfl (hb hby d3_99) rfl (teq hc99).1 (by decide) (by decide) hr) ?_
        refine Runs.by (fun _ hr => XS.iconst X20.here hx rfl (hb hby d3_106) hr) ?_
        show Runs p e below _ (T20.setTop (mkF m 107 #[.val (.ref o0), .unset] [(.int (0 : Int32))]))
        refine Runs.by (fun _ hr => XS.istoreN X20.here hx rfl (hb hby d3_107) rfl (l' := #[.val (.ref o0), .val (.int (0 : Int32))]) rfl hr) ?_
        refine Runs.by (fun _ hr => XS.iloadN X20.here hx rfl (hb hby d3_108) rfl  hr) ?_
        show Runs p e below _ (T20.setTop (mkF m 109 #[.val (.ref o0), .val (.int (0 : Int32))] [(.int (0 : Int32))]))
        refine Runs.ret X20 hx hrt hlk (Or.inl ⟨rfl, by simp, _, rfl⟩) (by rfl) (hb hby d3_109) (by decide) (by decide) ?_
        rw [e20]
        exact ⟨congrArg (fun z => some (Value.int z)) (Eq.symm (by rw [if_neg hc18, if_neg hc29, if_pos hc87])), N17, K18, ((E0.wr W2).wr W17), ((P_nanosPerStep.other W2 (Or.inr (slot_ne (Or.inr (hw _ (List.mem_of_getElem? (i := 12) rfl))) (Or.inl (hw _ (List.mem_of_getElem? (i := 19) rfl))) (by decide) (t := (.array .double)) (t' := .long) (by decide) (by decide)))).other W17 (Or.inr (slot_ne (Or.inr (hw _ (List.mem_of_getElem? (i := 12) rfl))) (Or.inl (hw _ (List.mem_of_getElem? (i := 21) rfl))) (by decide) (t := (.array .double)) (t' := .boolean) (by decide) (by decide)))), (Fw2.other W17 (Or.inr (slot_ne (Or.inl (hw _ (List.mem_of_getElem? (i := 19) rfl))) (Or.inl (hw _ (List.mem_of_getElem? (i := 21) rfl))) (by decide) (t := .long) (t' := .boolean) (by decide) (by decide)))), Fw17, ((P_started.other W2 (Or.inr (slot_ne (Or.inl (hw _ (List.mem_of_getElem? (i := 28) rfl))) (Or.inl (hw _ (List.mem_of_getElem? (i := 19) rfl))) (by decide) (t := .long) (t' := .long) (by decide) (by decide)))).other W17 (Or.inr (slot_ne (Or.inl (hw _ (List.mem_of_getElem? (i := 28) rfl))) (Or.inl (hw _ (List.mem_of_getElem? (i := 21) rfl))) (by decide) (t := .long) (t' := .boolean) (by decide) (by decide)))), ((P_shared.other W2 (Or.inr (slot_ne (Or.inl (hw _ (List.mem_of_getElem? (i := 30) rfl))) (Or.inl (hw _ (List.mem_of_getElem? (i := 19) rfl))) (by decide) (t := .boolean) (t' := .long) (by decide) (by decide)))).other W17 (Or.inr (slot_ne (Or.inl (hw _ (List.mem_of_getElem? (i := 30) rfl))) (Or.inl (hw _ (List.mem_of_getElem? (i := 21) rfl))) (by decide) (t := .boolean) (t' := .boolean) (by decide) (by decide)))), ((P_steps.other W2 (Or.inr (slot_ne (Or.inl (hw _ (List.mem_of_getElem? (i := 32) rfl))) (Or.inl (hw _ (List.mem_of_getElem? (i := 19) rfl))) (by decide) (t := .long) (t' := .long) (by decide) (by decide)))).other W17 (Or.inr (slot_ne (Or.inl (hw _ (List.mem_of_getElem? (i := 32) rfl))) (Or.inl (hw _ (List.mem_of_getElem? (i := 21) rfl))) (by decide) (t := .long) (t' := .boolean) (by decide) (by decide)))), ((P_sharedOverUnshared.other W2 (Or.inr (slot_ne (Or.inl (hw _ (List.mem_of_getElem? (i := 47) rfl))) (Or.inl (hw _ (List.mem_of_getElem? (i := 19) rfl))) (by decide) (t := .double) (t' := .long) (by decide) (by decide)))).other W17 (Or.inr (slot_ne (Or.inl (hw _ (List.mem_of_getElem? (i := 47) rfl))) (Or.inl (hw _ (List.mem_of_getElem? (i := 21) rfl))) (by decide) (t := .double) (t' := .boolean) (by decide) (by decide)))), ((VT.other W2 ne_ta_o0).other W17 ne_ta_o0)⟩
      · -- pc 87: not (0 : Int32) < (cmpValue (FP.dcmp qv (4606281698874543309 : UInt64)) .g)
        refine Runs.by (fun _ hr => XS.ifNo X19.here hx rfl (hb hby d3_87) rfl ((if0 _ _).trans (flt hc87).2.2.1) hr) ?_
        refine Runs.by (fun _ hr => XS.iconst X19.here hx rfl (hb hby d3_90) hr) ?_
        show Runs p e below _ (T19.setTop (mkF m 91 #[.val (.ref o0), .unset] [(.int (1 : Int32))]))
        refine Runs.by (fun _ hr => XS.goto X19.here hx rfl (pc0 := 91) (pc' := 95) rfl (hb hby d3_91) (by decide) (by decide) hr) ?_
        refine Runs.by (fun _ hr => XS.aloadN X19.here hx rfl (hb hby d3_95) rfl rfl hr) ?_
        show Runs p e below _ (T19.setTop (mkF m 96 #[.val (.ref o0), .unset] [(.ref o0), (.int (1 : Int32))]))
        obtain ⟨T21, X21, e21, st21⟩ := getF X19 hx hZ hown (host := "") (Or.inl (hw _ (List.mem_of_getElem? (i := 20) rfl))) Via.refl e19 Fw17 (g := (mkF m 96 #[.val (.ref o0), .unset] [(.ref o0), (.int (1 : Int32))])) rfl rfl (hb hby d3_96)
        refine Runs.by st21 ?_
        have hc99 : ¬ ((1 : Int32) = (0 : Int32)) := (by decide)
        refine Runs.by (fun _ hr => XS.icmpNo X21.here hx rfl (hb hby d3_99) rfl (feq hc99).1 hr) ?_
        refine Runs.by (fun _ hr => XS.iconst X21.here hx rfl (hb hby d3_102) hr) ?_
        show Runs p e below _ (T21.setTop (mkF m 103 #[.val (.ref o0), .unset] [(.int (1 : Int32))]))
        refine Runs.by (fun _ hr => XS.goto X21.here hx rfl (pc0 := 103) (pc' := 107) rfl (hb hby d3_103) (by decide) (by decide) hr) ?_
        refine Runs.by (fun _ hr => XS.istoreN X21.here hx rfl (hb hby d3_107) rfl (l' := #[.val (.ref o0), .val (.int (1 : Int32))]) rfl hr) ?_
        refine Runs.by (fun _ hr => XS.iloadN X21.here hx rfl (hb hby d3_108) rfl  hr) ?_
        show Runs p e below _ (T21.setTop (mkF m 109 #[.val (.ref o0), .val (.int (1 : Int32))] [(.int (1 : Int32))]))
        refine Runs.ret X21 hx hrt hlk (Or.inl ⟨rfl, by simp, _, rfl⟩) (by rfl) (hb hby d3_109) (by decide) (by decide) ?_
        rw [e21]
        exact ⟨congrArg (fun z => some (Value.int z)) (Eq.symm (by rw [if_neg hc18, if_neg hc29, if_neg hc87])), N17, K18, ((E0.wr W2).wr W17), ((P_nanosPerStep.other W2 (Or.inr (slot_ne (Or.inr (hw _ (List.mem_of_getElem? (i := 12) rfl))) (Or.inl (hw _ (List.mem_of_getElem? (i := 19) rfl))) (by decide) (t := (.array .double)) (t' := .long) (by decide) (by decide)))).other W17 (Or.inr (slot_ne (Or.inr (hw _ (List.mem_of_getElem? (i := 12) rfl))) (Or.inl (hw _ (List.mem_of_getElem? (i := 21) rfl))) (by decide) (t := (.array .double)) (t' := .boolean) (by decide) (by decide)))), (Fw2.other W17 (Or.inr (slot_ne (Or.inl (hw _ (List.mem_of_getElem? (i := 19) rfl))) (Or.inl (hw _ (List.mem_of_getElem? (i := 21) rfl))) (by decide) (t := .long) (t' := .boolean) (by decide) (by decide)))), Fw17, ((P_started.other W2 (Or.inr (slot_ne (Or.inl (hw _ (List.mem_of_getElem? (i := 28) rfl))) (Or.inl (hw _ (List.mem_of_getElem? (i := 19) rfl))) (by decide) (t := .long) (t' := .long) (by decide) (by decide)))).other W17 (Or.inr (slot_ne (Or.inl (hw _ (List.mem_of_getElem? (i := 28) rfl))) (Or.inl (hw _ (List.mem_of_getElem? (i := 21) rfl))) (by decide) (t := .long) (t' := .boolean) (by decide) (by decide)))), ((P_shared.other W2 (Or.inr (slot_ne (Or.inl (hw _ (List.mem_of_getElem? (i := 30) rfl))) (Or.inl (hw _ (List.mem_of_getElem? (i := 19) rfl))) (by decide) (t := .boolean) (t' := .long) (by decide) (by decide)))).other W17 (Or.inr (slot_ne (Or.inl (hw _ (List.mem_of_getElem? (i := 30) rfl))) (Or.inl (hw _ (List.mem_of_getElem? (i := 21) rfl))) (by decide) (t := .boolean) (t' := .boolean) (by decide) (by decide)))), ((P_steps.other W2 (Or.inr (slot_ne (Or.inl (hw _ (List.mem_of_getElem? (i := 32) rfl))) (Or.inl (hw _ (List.mem_of_getElem? (i := 19) rfl))) (by decide) (t := .long) (t' := .long) (by decide) (by decide)))).other W17 (Or.inr (slot_ne (Or.inl (hw _ (List.mem_of_getElem? (i := 32) rfl))) (Or.inl (hw _ (List.mem_of_getElem? (i := 21) rfl))) (by decide) (t := .long) (t' := .boolean) (by decide) (by decide)))), ((P_sharedOverUnshared.other W2 (Or.inr (slot_ne (Or.inl (hw _ (List.mem_of_getElem? (i := 47) rfl))) (Or.inl (hw _ (List.mem_of_getElem? (i := 19) rfl))) (by decide) (t := .double) (t' := .long) (by decide) (by decide)))).other W17 (Or.inr (slot_ne (Or.inl (hw _ (List.mem_of_getElem? (i := 47) rfl))) (Or.inl (hw _ (List.mem_of_getElem? (i := 21) rfl))) (by decide) (t := .double) (t' := .boolean) (by decide) (by decide)))), ((VT.other W2 ne_ta_o0).other W17 ne_ta_o0)⟩
def Q_rm3_1 (Z : State) (o0 : Addr) (ta : Addr) (kt : ClassId) (x0 x1 qv : UInt64) (st sp : Int64) (sh : Int32) (h0 : Heap) (n0 : Nat) (v : Option Value) (h : Heap) (L : List Loc) : Prop := v = some (.int (if (cmpValue (FP.dcmp x0 FP.dconst0) .l) = (0 : Int32) then (0 : Int32) else if (cmpValue (FP.dcmp x1 FP.dconst0) .l) = (0 : Int32) then (1 : Int32) else if (0 : Int32) < (cmpValue (FP.dcmp qv (4606281698874543309 : UInt64)) .g) then (0 : Int32) else (1 : Int32))) ∧ Fr n0 L ∧ Keep h0 h [o0] ∧ Exa Z h o0 "com/example/dialtone/dialtone/workload/Workers$Sharing" ∧ Fld Z h o0 "com/example/dialtone/dialtone/workload/Workers$Sharing" "nanosPerStep" "[D" (.ref ta) ∧ Fld Z h o0 "com/example/dialtone/dialtone/workload/Workers$Sharing" "rounds" "J" (.long (2 : Int64)) ∧ Fld Z h o0 "com/example/dialtone/dialtone/workload/Workers$Sharing" "otherWay" "Z" (.int (0 : Int32)) ∧ Fld Z h o0 "com/example/dialtone/dialtone/workload/Workers$Sharing" "started" "J" (.long st) ∧ Fld Z h o0 "com/example/dialtone/dialtone/workload/Workers$Sharing" "shared" "Z" (.int sh) ∧ Fld Z h o0 "com/example/dialtone/dialtone/workload/Workers$Sharing" "steps" "J" (.long sp) ∧ Fld Z h o0 "com/example/dialtone/dialtone/workload/Workers$Sharing" "sharedOverUnshared" "D" (.double qv) ∧ Arv Z h ta kt .double (2 : Int32) [(.double x0), (.double x1)] (.double (0 : UInt64))
set_option maxRecDepth 65536 in
set_option maxHeartbeats 40000000 in
theorem rm3_1 (l : Launch) (Z : State) (a0 : Array Value) (hw : ∀ d ∈ tables_1, d.before a0 Z = true) (ws : List Jvm.Cond) (o0 : Addr) (ta : Addr) (kt : ClassId) (x0 x1 qv : UInt64) (st sp : Int64) (sh : Int32) (h0 : Heap) (n0 : Nat) (Z0 : n0 ≤ h0.size) (E0 : Exa Z h0 o0 "com/example/dialtone/dialtone/workload/Workers$Sharing") (g_o0 : n0 ≤ o0) (g_ta : n0 ≤ ta) (ne_ta_o0 : ta ≠ o0) (P_nanosPerStep : Fld Z h0 o0 "com/example/dialtone/dialtone/workload/Workers$Sharing" "nanosPerStep" "[D" (.ref ta)) (P_rounds : Fld Z h0 o0 "com/example/dialtone/dialtone/workload/Workers$Sharing" "rounds" "J" (.long (1 : Int64))) (P_otherWay : Fld Z h0 o0 "com/example/dialtone/dialtone/workload/Workers$Sharing" "otherWay" "Z" (.int (0 : Int32))) (P_started : Fld Z h0 o0 "com/example/dialtone/dialtone/workload/Workers$Sharing" "started" "J" (.long st)) (P_shared : Fld Z h0 o0 "com/example/dialtone/dialtone/workload/Workers$Sharing" "shared" "Z" (.int sh)) (P_steps : Fld Z h0 o0 "com/example/dialtone/dialtone/workload/Workers$Sharing" "steps" "J" (.long sp)) (P_sharedOverUnshared : Fld Z h0 o0 "com/example/dialtone/dialtone/workload/Workers$Sharing" "sharedOverUnshared" "D" (.double qv)) (VT : Arv Z h0 ta kt .double (2 : Int32) [(.double x0), (.double x1)] (.double (0 : UInt64))) :
    MetFree l (⟨"com/example/dialtone/dialtone/workload/Workers$Sharing", "shares", "()Z"⟩ : MethodName) (head1 (Jvm.Cond.code (⟨"com/example/dialtone/dialtone/workload/Workers$Sharing", "shares", "()Z"⟩ : MethodName) prog_268_method_2_code 2 (some .boolean) :: ws) ({ frames := 0, cells := 0, slots := 0, locals := 0 } : Room)) (fun a U => a = #[(.ref o0)] ∧ Z.Warmed39 U.vm ∧ U.heap = h0) (fun _ _ _ _ _ => True) (fun _ U o U' => ∃ v L, o = .returned v ∧ Q_rm3_1 Z o0 ta kt x0 x1 qv st sp sh h0 n0 v U'.heap L ∧ FrameEnd U o U' L ({ frames := 0, cells := 0, slots := 0, locals := 0 } : Room).cells ({ frames := 0, cells := 0, slots := 0, locals := 0 } : Room).slots) := by
  refine MetFree.of_bodySF (plainFor_of_name pn_com_example_dialtone_dialtone_workload_Workers_Sharing) hisR ?_
  intro p e s m args below meth c s₁ Bd hml0 hP hK
  obtain ⟨rfl, hZ, hh⟩ := hP
  have hx := Bd.exec
  have hby := Bd.bytes
  have hlk := BodyLoose.notSynchronized Bd
  have hrt := Bd.returns
  have hml : c.maxLocals = 2 := hml0
  have hown : s.vm.findClass "com/example/dialtone/dialtone/workload/Workers$Sharing" = some m.cls := findClass_of_methodNamed Bd.named
  have hnm := (name_of_methodNamed Bd.named Bd.method).1
  have X0 : Stand p l e ({ frames := 0, cells := 0, slots := 0, locals := 0 } : Room) s m #[(.ref o0)] below meth c s₁ [] 0 0 := Stand.of_body Bd
  have e0 : s₁.heap = h0 := by rw [← hh, Bd.state]; rfl
  have N0 := Fr.nil n0
  have K0 : Keep h0 h0 [o0] := Keep.refl h0 _
  show Runs p e below (QE s (Q_rm3_1 Z o0 ta kt x0 x1 qv st sp sh h0 n0) ({ frames := 0, cells := 0, slots := 0, locals := 0 } : Room).cells ({ frames := 0, cells := 0, slots := 0, locals := 0 } : Room).slots) (s₁.setTop (entryFrame m #[(.ref o0)] 2))
  rw [ef_3_2 m o0]
  refine Runs.by (fun _ hr => XS.aloadN X0.here hx rfl (hb hby d3_0) rfl rfl hr) ?_
  refine Runs.by (fun _ hr => XS.dup X0.here hx rfl (hb hby d3_1) rfl rfl hr) ?_
  show Runs p e below _ (s₁.setTop (mkF m 2 #[.val (.ref o0), .unset] [(.ref o0), (.ref o0)]))
  obtain ⟨T1, X1, e1, st1⟩ := getF X0 hx hZ hown (host := "") (Or.inl (hw _ (List.mem_of_getElem? (i := 18) rfl))) Via.refl e0 P_rounds (g := (mkF m 2 #[.val (.ref o0), .unset] [(.ref o0), (.ref o0)])) rfl rfl (hb hby d3_2)
  refine Runs.by st1 ?_
  refine Runs.by (fun _ hr => XS.lconst X1.here hx rfl (hb hby d3_5) hr) ?_
  refine Runs.by (fun _ hr => XS.ladd X1.here hx rfl (hb hby d3_6) rfl hr) ?_
  show Runs p e below _ (T1.setTop (mkF m 7 #[.val (.ref o0), .unset] [(.long (2 : Int64)), (.ref o0)]))
  obtain ⟨T2, h2, X2, e2, W2, st2⟩ := putF X1 hx hZ hown (host := "") (Or.inl (hw _ (List.mem_of_getElem? (i := 18) rfl))) Via.refl e1 P_rounds E0 (Or.inl (hw _ (List.mem_of_getElem? (i := 19) rfl))) (hw _ (List.mem_of_getElem? (i := 2) rfl)) (ty := .long) (by decide) rfl rfl (g := (mkF m 7 #[.val (.ref o0), .unset] [(.long (2 : Int64)), (.ref o0)])) rfl rfl (hb hby d3_7)
  have Fw2 := P_rounds.same W2
  have K3 : Keep h0 h2 [o0] := K0.wr W2 (Or.inl (List.mem_of_getElem? (i := 0) rfl))
  have N2 := Fr.snoc X2 N0 g_o0
  refine Runs.by st2 ?_
  refine Runs.by (fun _ hr => XS.aloadN X2.here hx rfl (hb hby d3_10) rfl rfl hr) ?_
  show Runs p e below _ (T2.setTop (mkF m 11 #[.val (.ref o0), .unset] [(.ref o0)]))
  obtain ⟨T4, X4, e4, st4⟩ := getF X2 hx hZ hown (host := "") (Or.inl (hw _ (List.mem_of_getElem? (i := 11) rfl))) Via.refl e2 (P_nanosPerStep.other W2 (Or.inr (slot_ne (Or.inr (hw _ (List.mem_of_getElem? (i := 12) rfl))) (Or.inl (hw _ (List.mem_of_getElem? (i := 19) rfl))) (by decide) (t := (.array .double)) (t' := .long) (by decide) (by decide)))) (g := (mkF m 11 #[.val (.ref o0), .unset] [(.ref o0)])) rfl rfl (hb hby d3_11)
  refine Runs.by st4 ?_
  refine Runs.by (fun _ hr => XS.iconst X4.here hx rfl (hb hby d3_14) hr) ?_
  show Runs p e below _ (T4.setTop (mkF m 15 #[.val (.ref o0), .unset] [(.int (0 : Int32)), (.ref ta)]))
  obtain ⟨cl5, Ar5, -, S5, N5', H5, -⟩ := id (VT.other W2 ne_ta_o0)
  have hin5 : ¬ ((0 : Int32) < 0 ∨ cl5.slots.size ≤ ((0 : Int32)).toNatClampNeg) := inb_of S5 ⟨by decide, by decide⟩
  have hat5 := H5.at hin5 (v := (.double x0)) rfl
  refine Runs.by (fun t hr => X4.daload hx (j := (0 : Int32)) (v := (.double x0)) (by rw [e4]; exact Ar5.1) (State.isArrayOf_alike hZ.alike Ar5.2.1) Ar5.2.2 hin5 hat5 (g := (mkF m 15 #[.val (.ref o0), .unset] [(.int (0 : Int32)), (.ref ta)])) rfl rfl (hb hby d3_15) t hr) ?_
  refine Runs.by (fun _ hr => XS.dconst0 X4.here hx rfl (hb hby d3_16) rfl hr) ?_
  show Runs p e below _ (T4.setTop (mkF m 17 #[.val (.ref o0), .unset] [(.double FP.dconst0), (.double x0)]))
  refine Runs.by (fun _ hr => XS.dcmpS X4.here hx rfl (hb hby d3_17) rfl rfl hr) ?_
  by_cases hc18 : (cmpValue (FP.dcmp x0 FP.dconst0) .l) = (0 : Int32)
  · -- pc 18: (cmpValue (FP.dcmp x0 FP.dconst0) .l) = (0 : Int32)
    refine Runs.by (fun _ hr => XS.ifYes X4.here hx rfl (pc0 := 18) (pc' := 32) rfl (hb hby d3_18) rfl ((if0 _ _).trans (teq hc18).1) (by decide) (by decide) hr) ?_
    refine Runs.by (fun _ hr => XS.aloadN X4.here hx rfl (hb hby d3_32) rfl rfl hr) ?_
    show Runs p e below _ (T4.setTop (mkF m 33 #[.val (.ref o0), .unset] [(.ref o0)]))
    obtain ⟨T6, X6, e6, st6⟩ := getF X4 hx hZ hown (host := "") (Or.inl (hw _ (List.mem_of_getElem? (i := 11) rfl))) Via.refl e4 (P_nanosPerStep.other W2 (Or.inr (slot_ne (Or.inr (hw _ (List.mem_of_getElem? (i := 12) rfl))) (Or.inl (hw _ (List.mem_of_getElem? (i := 19) rfl))) (by decide) (t := (.array .double)) (t' := .long) (by decide) (by decide)))) (g := (mkF m 33 #[.val (.ref o0), .unset] [(.ref o0)])) rfl rfl (hb hby d3_33)
    refine Runs.by st6 ?_
    refine Runs.by (fun _ hr => XS.iconst X6.here hx rfl (hb hby d3_36) hr) ?_
    show Runs p e below _ (T6.setTop (mkF m 37 #[.val (.ref o0), .unset] [(.int (0 : Int32)), (.ref ta)]))
    obtain ⟨cl7, Ar7, -, S7, N7', H7, -⟩ := id (VT.other W2 ne_ta_o0)
    have hin7 : ¬ ((0 : Int32) < 0 ∨ cl7.slots.size ≤ ((0 : Int32)).toNatClampNeg) := inb_of S7 ⟨by decide, by decide⟩
    have hat7 := H7.at hin7 (v := (.double x0)) rfl
    refine Runs.by (fun t hr => X6.daload hx (j := (0 : Int32)) (v := (.double x0)) (by rw [e6]; exact Ar7.1) (State.isArrayOf_alike hZ.alike Ar7.2.1) Ar7.2.2 hin7 hat7 (g := (mkF m 37 #[.val (.ref o0), .unset] [(.int (0 : Int32)), (.ref ta)])) rfl rfl (hb hby d3_37) t hr) ?_
    refine Runs.by (fun _ hr => XS.dconst0 X6.here hx rfl (hb hby d3_38) rfl hr) ?_
    show Runs p e below _ (T6.setTop (mkF m 39 #[.val (.ref o0), .unset] [(.double FP.dconst0), (.double x0)]))
    refine Runs.by (fun _ hr => XS.dcmpS X6.here hx rfl (hb hby d3_39) rfl rfl hr) ?_
    have hc40 : (cmpValue (FP.dcmp x0 FP.dconst0) .l) = (0 : Int32) := hc18
    refine Runs.by (fun _ hr => XS.ifYes X6.here hx rfl (pc0 := 40) (pc' := 47) rfl (hb hby d3_40) rfl ((if0 _ _).trans (teq hc40).1) (by decide) (by decide) hr) ?_
    refine Runs.by (fun _ hr => XS.iconst X6.here hx rfl (hb hby d3_47) hr) ?_
    show Runs p e below _ (T6.setTop (mkF m 48 #[.val (.ref o0), .unset] [(.int (0 : Int32))]))
    refine Runs.by (fun _ hr => XS.istoreN X6.here hx rfl (hb hby d3_48) rfl (l' := #[.val (.ref o0), .val (.int (0 : Int32))]) rfl hr) ?_
    refine Runs.by (fun _ hr => XS.aloadN X6.here hx rfl (hb hby d3_49) rfl rfl hr) ?_
    refine Runs.by (fun _ hr => XS.iconst X6.here hx rfl (hb hby d3_50) hr) ?_
    show Runs p e below _ (T6.setTop (mkF m 51 #[.val (.ref o0), .val (.int (0 : Int32))] [(.int (0 : Int32)), (.ref o0)]))
    obtain ⟨T8, h8, X8, e8, W8, st8⟩ := putFN X6 hx hZ hown (hw _ (List.mem_of_getElem? (i := 20) rfl)) Via.refl e6 (P_otherWay.other W2 (Or.inr (slot_ne (Or.inl (hw _ (List.mem_of_getElem? (i := 21) rfl))) (Or.inl (hw _ (List.mem_of_getElem? (i := 19) rfl))) (by decide) (t := .boolean) (t' := .long) (by decide) (by decide)))) (E0.wr W2) (Or.inl (hw _ (List.mem_of_getElem? (i := 21) rfl))) (hw _ (List.mem_of_getElem? (i := 2) rfl)) (ty := .boolean) (v' := (.int (0 : Int32))) (by decide) rfl (by first | rfl | exact fits_nar_bool _) (g := (mkF m 51 #[.val (.ref o0), .val (.int (0 : Int32))] [(.int (0 : Int32)), (.ref o0)])) rfl rfl (hb hby d3_51)
    have Fw8 := (P_otherWay.other W2 (Or.inr (slot_ne (Or.inl (hw _ (List.mem_of_getElem? (i := 21) rfl))) (Or.inl (hw _ (List.mem_of_getElem? (i := 19) rfl))) (by decide) (t := .boolean) (t' := .long) (by decide) (by decide)))).same W8
    have K9 : Keep h0 h8 [o0] := K3.wr W8 (Or.inl (List.mem_of_getElem? (i := 0) rfl))
    have N8 := Fr.snoc X8 N2 g_o0
    refine Runs.by st8 ?_
    refine Runs.by (fun _ hr => XS.goto X8.here hx rfl (pc0 := 54) (pc' := 108) rfl (hb hby d3_54) (by decide) (by decide) hr) ?_
    refine Runs.by (fun _ hr => XS.iloadN X8.here hx rfl (hb hby d3_108) rfl  hr) ?_
    show Runs p e below _ (T8.setTop (mkF m 109 #[.val (.ref o0), .val (.int (0 : Int32))] [(.int (0 : Int32))]))
    refine Runs.ret X8 hx hrt hlk (Or.inl ⟨rfl, by simp, _, rfl⟩) (by rfl) (hb hby d3_109) (by decide) (by decide) ?_
    rw [e8]
    exact ⟨congrArg (fun z => some (Value.int z)) (Eq.symm (by rw [if_pos hc18])), N8, K9, ((E0.wr W2).wr W8), ((P_nanosPerStep.other W2 (Or.inr (slot_ne (Or.inr (hw _ (List.mem_of_getElem? (i := 12) rfl))) (Or.inl (hw _ (List.mem_of_getElem? (i := 19) rfl))) (by decide) (t := (.array .double)) (t' := .long) (by decide) (by decide)))).other W8 (Or.inr (slot_ne (Or.inr (hw _ (List.mem_of_getElem? (i := 12) rfl))) (Or.inl (hw _ (List.mem_of_getElem? (i := 21) rfl))) (by decide) (t := (.array .double)) (t' := .boolean) (by decide) (by decide)))), (Fw2.other W8 (Or.inr (slot_ne (Or.inl (hw _ (List.mem_of_getElem? (i := 19) rfl))) (Or.inl (hw _ (List.mem_of_getElem? (i := 21) rfl))) (by decide) (t := .long) (t' := .boolean) (by decide) (by decide)))), Fw8, ((P_started.other W2 (Or.inr (slot_ne (Or.inl (hw _ (List.mem_of_getElem? (i := 28) rfl))) (Or.inl (hw _ (List.mem_of_getElem? (i := 19) rfl))) (by decide) (t := .long) (t' := .long) (by decide) (by decide)))).other W8 (Or.inr (slot_ne (Or.inl (hw _ (List.mem_of_getElem? (i := 28) rfl))) (Or.inl (hw _ (List.mem_of_getElem? (i := 21) rfl))) (by decide) (t := .long) (t' := .boolean) (by decide) (by decide)))), ((P_shared.other W2 (Or.inr (slot_ne (Or.inl (hw _ (List.mem_of_getElem? (i := 30) rfl))) (Or.inl (hw _ (List.mem_of_getElem? (i := 19) rfl))) (by decide) (t := .boolean) (t' := .long) (by decide) (by decide)))).other W8 (Or.inr (slot_ne (Or.inl (hw _ (List.mem_of_getElem? (i := 30) rfl))) (Or.inl (hw _ (List.mem_of_getElem? (i := 21) rfl))) (by decide) (t := .boolean) (t' := .boolean) (by decide) (by decide)))), ((P_steps.other W2 (Or.inr (slot_ne (Or.inl (hw _ (List.mem_of_getElem? (i := 32) rfl))) (Or.inl (hw _ (List.mem_of_getElem? (i := 19) rfl))) (by decide) (t := .long) (t' := .long) (by decide) (by decide)))).other W8 (Or.inr (slot_ne (Or.inl (hw _ (List.mem_of_getElem? (i := 32) rfl))) (Or.inl (hw _ (List.mem_of_getElem? (i := 21) rfl))) (by decide) (t := .long) (t' := .boolean) (by decide) (by decide)))), ((P_sharedOverUnshared.other W2 (Or.inr (slot_ne (Or.inl (hw _ (List.mem_of_getElem? (i := 47) rfl))) (Or.inl (hw _ (List.mem_of_getElem? (i := 19) rfl))) (by decide) (t := .double) (t' := .long) (by decide) (by decide)))).other W8 (Or.inr (slot_ne (Or.inl (hw _ (List.mem_of_getElem? (i := 47) rfl))) (Or.inl (hw _ (List.mem_of_getElem? (i := 21) rfl))) (by decide) (t := .double) (t' := .boolean) (by decide) (by decide)))), ((VT.other W2 ne_ta_o0).other W8 ne_ta_o0)⟩
  · -- pc 18: not (cmpValue (FP.dcmp x0 FP.dconst0) .l) = (0 : Int32)
    refine Runs.by (fun _ hr => XS.ifNo X4.here hx rfl (hb hby d3_18) rfl ((if0 _ _).trans (feq hc18).1) hr) ?_
    refine Runs.by (fun _ hr => XS.aloadN X4.here hx rfl (hb hby d3_21) rfl rfl hr) ?_
    show Runs p e below _ (T4.setTop (mkF m 22 #[.val (.ref o0), .unset] [(.ref o0)]))
    obtain ⟨T10, X10, e10, st10⟩ := getF X4 hx hZ hown (host := "") (Or.inl (hw _ (List.mem_of_getElem? (i := 11) rfl))) Via.refl e4 (P_nanosPerStep.other W2 (Or.inr (slot_ne (Or.inr (hw _ (List.mem_of_getElem? (i := 12) rfl))) (Or.inl (hw _ (List.mem_of_getElem? (i := 19) rfl))) (by decide) (t := (.array .double)) (t' := .long) (by decide) (by decide)))) (g := (mkF m 22 #[.val (.ref o0), .unset] [(.ref o0)])) rfl rfl (hb hby d3_22)
    refine Runs.by st10 ?_
    refine Runs.by (fun _ hr => XS.iconst X10.here hx rfl (hb hby d3_25) hr) ?_
    show Runs p e below _ (T10.setTop (mkF m 26 #[.val (.ref o0), .unset] [(.int (1 : Int32)), (.ref ta)]))
    obtain ⟨cl11, Ar11, -, S11, N11', H11, -⟩ := id (VT.other W2 ne_ta_o0)
    have hin11 : ¬ ((1 : Int32) < 0 ∨ cl11.slots.size ≤ ((1 : Int32)).toNatClampNeg) := inb_of S11 ⟨by decide, by decide⟩
    have hat11 := H11.at hin11 (v := (.double x1)) rfl
    refine Runs.by (fun t hr => X10.daload hx (j := (1 : Int32)) (v := (.double x1)) (by rw [e10]; exact Ar11.1) (State.isArrayOf_alike hZ.alike Ar11.2.1) Ar11.2.2 hin11 hat11 (g := (mkF m 26 #[.val (.ref o0), .unset] [(.int (1 : Int32)), (.ref ta)])) rfl rfl (hb hby d3_26) t hr) ?_
    refine Runs.by (fun _ hr => XS.dconst0 X10.here hx rfl (hb hby d3_27) rfl hr) ?_
    show Runs p e below _ (T10.setTop (mkF m 28 #[.val (.ref o0), .unset] [(.double FP.dconst0), (.double x1)]))
    refine Runs.by (fun _ hr => XS.dcmpS X10.here hx rfl (hb hby d3_28) rfl rfl hr) ?_
    by_cases hc29 : (cmpValue (FP.dcmp x1 FP.dconst0) .l) = (0 : Int32)
    · -- pc 29: (cmpValue (FP.dcmp x1 FP.dconst0) .l) = (0 : Int32)
      refine Runs.by (fun _ hr => XS.ifNo X10.here hx rfl (hb hby d3_29) rfl ((if0 _ _).trans (teq hc29).2) hr) ?_
      refine Runs.by (fun _ hr => XS.aloadN X10.here hx rfl (hb hby d3_32) rfl rfl hr) ?_
      show Runs p e below _ (T10.setTop (mkF m 33 #[.val (.ref o0), .unset] [(.ref o0)]))
      obtain ⟨T12, X12, e12, st12⟩ := getF X10 hx hZ hown (host := "") (Or.inl (hw _ (List.mem_of_getElem? (i := 11) rfl))) Via.refl e10 (P_nanosPerStep.other W2 (Or.inr (slot_ne (Or.inr (hw _ (List.mem_of_getElem? (i := 12) rfl))) (Or.inl (hw _ (List.mem_of_getElem? (i := 19) rfl))) (by decide) (t := (.array .double)) (t' := .long) (by decide) (by decide)))) (g := (mkF m 33 #[.val (.ref o0), .unset] [(.ref o0)])) rfl rfl (hb hby d3_33)
      refine Runs.by st12 ?_
      refine Runs.by (fun _ hr => XS.iconst X12.here hx rfl (hb hby d3_36) hr) ?_
      show Runs p e below _ (T12.setTop (mkF m 37 #[.val (.ref o0), .unset] [(.int (0 : Int32)), (.ref ta)]))
      obtain ⟨cl13, Ar13, -, S13, N13', H13, -⟩ := id (VT.other W2 ne_ta_o0)
      have hin13 : ¬ ((0 : Int32) < 0 ∨ cl13.slots.size ≤ ((0 : Int32)).toNatClampNeg) := inb_of S13 ⟨by decide, by decide⟩
      have hat13 := H13.at hin13 (v := (.double x0)) rfl
      refine Runs.by (fun t hr => X12.daload hx (j := (0 : Int32)) (v := (.double x0)) (by rw [e12]; exact Ar13.1) (State.isArrayOf_alike hZ.alike Ar13.2.1) Ar13.2.2 hin13 hat13 (g := (mkF m 37 #[.val (.ref o0), .unset] [(.int (0 : Int32)), (.ref ta)])) rfl rfl (hb hby d3_37) t hr) ?_
      refine Runs.by (fun _ hr => XS.dconst0 X12.here hx rfl (hb hby d3_38) rfl hr) ?_
      show Runs p e below _ (T12.setTop (mkF m 39 #[.val (.ref o0), .unset] [(.double FP.dconst0), (.double x0)]))
      refine Runs.by (fun _ hr => XS.dcmpS X12.here hx rfl (hb hby d3_39) rfl rfl hr) ?_
      have hc40 : ¬ ((cmpValue (FP.dcmp x0 FP.dconst0) .l) = (0 : Int32)) := hc18
      refine Runs.by (fun _ hr => XS.ifNo X12.here hx rfl (hb hby d3_40) rfl ((if0 _ _).trans (feq hc40).1) hr) ?_
      refine Runs.by (fun _ hr => XS.iconst X12.here hx rfl (hb hby d3_43) hr) ?_
      show Runs p e below _ (T12.setTop (mkF m 44 #[.val (.ref o0), .unset] [(.int (1 : Int32))]))
      refine Runs.by (fun _ hr => XS.goto X12.here hx rfl (pc0 := 44) (pc' := 48) rfl (hb hby d3_44) (by decide) (by decide) hr) ?_
      refine Runs.by (fun _ hr => XS.istoreN X12.here hx rfl (hb hby d3_48) rfl (l' := #[.val (.ref o0), .val (.int (1 : Int32))]) rfl hr) ?_
      refine Runs.by (fun _ hr => XS.aloadN X12.here hx rfl (hb hby d3_49) rfl rfl hr) ?_
      show Runs p e below _ (T12.setTop (mkF m 50 #[.val (.ref o0), .val (.int (1 : Int32))] [(.ref o0)]))
      refine Runs.by (fun _ hr => XS.iconst X12.here hx rfl (hb hby d3_50) hr) ?_
      show Runs p e below _ (T12.setTop (mkF m 51 #[.val (.ref o0), .val (.int (1 : Int32))] [(.int (0 : Int32)), (.ref o0)]))
      obtain ⟨T14, h14, X14, e14, W14, st14⟩ := putFN X12 hx hZ hown (hw _ (List.mem_of_getElem? (i := 20) rfl)) Via.refl e12 (P_otherWay.other W2 (Or.inr (slot_ne (Or.inl (hw _ (List.mem_of_getElem? (i := 21) rfl))) (Or.inl (hw _ (List.mem_of_getElem? (i := 19) rfl))) (by decide) (t := .boolean) (t' := .long) (by decide) (by decide)))) (E0.wr W2) (Or.inl (hw _ (List.mem_of_getElem? (i := 21) rfl))) (hw _ (List.mem_of_getElem? (i := 2) rfl)) (ty := .boolean) (v' := (.int (0 : Int32))) (by decide) rfl (by first | rfl | exact fits_nar_bool _) (g := (mkF m 51 #[.val (.ref o0), .val (.int (1 : Int32))] [(.int (0 : Int32)), (.ref o0)])) rfl rfl (hb hby d3_51)
      have Fw14 := (P_otherWay.other W2 (Or.inr (slot_ne (Or.inl (hw _ (List.mem_of_getElem? (i := 21) rfl))) (Or.inl (hw _ (List.mem_of_getElem? (i := 19) rfl))) (by decide) (t := .boolean) (t' := .long) (by decide) (by decide)))).same W14
      have K15 : Keep h0 h14 [o0] := K3.wr W14 (Or.inl (List.mem_of_getElem? (i := 0) rfl))
      have N14 := Fr.snoc X14 N2 g_o0
      refine Runs.by st14 ?_
      refine Runs.by (fun _ hr => XS.goto X14.here hx rfl (pc0 := 54) (pc' := 108) rfl (hb hby d3_54) (by decide) (by decide) hr) ?_
      refine Runs.by (fun _ hr => XS.iloadN X14.here hx rfl (hb hby d3_108) rfl  hr) ?_
      show Runs p e below _ (T14.setTop (mkF m 109 #[.val (.ref o0), .val (.int (1 : Int32))] [(.int (1 : Int32))]))
      refine Runs.ret X14 hx hrt hlk (Or.inl ⟨rfl, by simp, _, rfl⟩) (by rfl) (hb hby d3_109) (by decide) (by decide) ?_
      rw [e14]
      exact ⟨congrArg (fun z => some (Value.int z)) (Eq.symm (by rw [if_neg hc18, if_pos hc29])), N14, K15, ((E0.wr W2).wr W14), ((P_nanosPerStep.other W2 (Or.inr (slot_ne (Or.inr (hw _ (List.mem_of_getElem? (i := 12) rfl))) (Or.inl (hw _ (List.mem_of_getElem? (i := 19) rfl))) (by decide) (t := (.array .double)) (t' := .long) (by decide) (by decide)))).other W14 (Or.inr (slot_ne (Or.inr (hw _ (List.mem_of_getElem? (i := 12) rfl))) (Or.inl (hw _ (List.mem_of_getElem? (i := 21) rfl))) (by decide) (t := (.array .double)) (t' := .boolean) (by decide) (by decide)))), (Fw2.other W14 (Or.inr (slot_ne (Or.inl (hw _ (List.mem_of_getElem? (i := 19) rfl))) (Or.inl (hw _ (List.mem_of_getElem? (i := 21) rfl))) (by decide) (t := .long) (t' := .boolean) (by decide) (by decide)))), Fw14, ((P_started.other W2 (Or.inr (slot_ne (Or.inl (hw _ (List.mem_of_getElem? (i := 28) rfl))) (Or.inl (hw _ (List.mem_of_getElem? (i := 19) rfl))) (by decide) (t := .long) (t' := .long) (by decide) (by decide)))).other W14 (Or.inr (slot_ne (Or.inl (hw _ (List.mem_of_getElem? (i := 28) rfl))) (Or.inl (hw _ (List.mem_of_getElem? (i := 21) rfl))) (by decide) (t := .long) (t' := .boolean) (by decide) (by decide)))), ((P_shared.other W2 (Or.inr (slot_ne (Or.inl (hw _ (List.mem_of_getElem? (i := 30) rfl))) (Or.inl (hw _ (List.mem_of_getElem? (i := 19) rfl))) (by decide) (t := .boolean) (t' := .long) (by decide) (by decide)))).other W14 (Or.inr (slot_ne (Or.inl (hw _ (List.mem_of_getElem? (i := 30) rfl))) (Or.inl (hw _ (List.mem_of_getElem? (i := 21) rfl))) (by decide) (t := .boolean) (t' := .boolean) (by decide) (by decide)))), ((P_steps.other W2 (Or.inr (slot_ne (Or.inl (hw _ (List.mem_of_getElem? (i := 32) rfl))) (Or.inl (hw _ (List.mem_of_getElem? (i := 19) rfl))) (by decide) (t := .long) (t' := .long) (by decide) (by decide)))).other W14 (Or.inr (slot_ne (Or.inl (hw _ (List.mem_of_getElem? (i := 32) rfl))) (Or.inl (hw _ (List.mem_of_getElem? (i := 21) rfl))) (by decide) (t := .long) (t' := .boolean) (by decide) (by decide)))), ((P_sharedOverUnshared.other W2 (Or.inr (slot_ne (Or.inl (hw _ (List.mem_of_getElem? (i := 47) rfl))) (Or.inl (hw _ (List.mem_of_getElem? (i := 19) rfl))) (by decide) (t := .double) (t' := .long) (by decide) (by decide)))).other W14 (Or.inr (slot_ne (Or.inl (hw _ (List.mem_of_getElem? (i := 47) rfl))) (Or.inl (hw _ (List.mem_of_getElem? (i := 21) rfl))) (by decide) (t := .double) (t' := .boolean) (by decide) (by decide)))), ((VT.other W2 ne_ta_o0).other W14 ne_ta_o0)⟩
    · -- pc 29: not (cmpValue (FP.dcmp x1 FP.dconst0) .l) = (0 : Int32)
      refine Runs.by (fun _ hr => XS.ifYes X10.here hx rfl (pc0 := 29) (pc' := 57) rfl (hb hby d3_29) rfl ((if0 _ _).trans (feq hc29).2) (by decide) (by decide) hr) ?_
      refine Runs.by (fun _ hr => XS.aloadN X10.here hx rfl (hb hby d3_57) rfl rfl hr) ?_
      show Runs p e below _ (T10.setTop (mkF m 58 #[.val (.ref o0), .unset] [(.ref o0)]))
      refine Runs.by (fun _ hr => XS.aloadN X10.here hx rfl (hb hby d3_58) rfl rfl hr) ?_
      show Runs p e below _ (T10.setTop (mkF m 59 #[.val (.ref o0), .unset] [(.ref o0), (.ref o0)]))
      obtain ⟨T16, X16, e16, st16⟩ := getF X10 hx hZ hown (host := "") (Or.inl (hw _ (List.mem_of_getElem? (i := 18) rfl))) Via.refl e10 Fw2 (g := (mkF m 59 #[.val (.ref o0), .unset] [(.ref o0), (.ref o0)])) rfl rfl (hb hby d3_59)
      refine Runs.by st16 ?_
      show Runs p e below _ (T16.setTop (mkF m 62 #[.val (.ref o0), .unset] [(.long (2 : Int64)), (.ref o0)]))
      refine Runs.by (fun _ hr => X16.ldc2J hx hown (mvT hZ (hw _ (List.mem_of_getElem? (i := 49) rfl))) (g := (mkF m 62 #[.val (.ref o0), .unset] [(.long (2 : Int64)), (.ref o0)])) rfl (hb hby d3_62) hr) ?_
      show Runs p e below _ (T16.setTop (mkF m 65 #[.val (.ref o0), .unset] [(.long (64 : Int64)), (.long (2 : Int64)), (.ref o0)]))
      refine Runs.by (fun _ hr => XS.lrem X16.here hx rfl (hb hby d3_65) rfl (by decide) hr) ?_
      refine Runs.by (fun _ hr => XS.lconst X16.here hx rfl (hb hby d3_66) hr) ?_
      refine Runs.by (fun _ hr => XS.lcmp X16.here hx rfl (hb hby d3_67) rfl hr) ?_
      show Runs p e below _ (T16.setTop (mkF m 68 #[.val (.ref o0), .unset] [(.int (lcmpW ((2 : Int64) % (64 : Int64)) (0 : Int64))), (.ref o0)]))
      have hc68 : ¬ ((lcmpW ((2 : Int64) % (64 : Int64)) (0 : Int64)) = (0 : Int32)) := (by decide)
      refine Runs.by (fun _ hr => XS.ifYes X16.here hx rfl (pc0 := 68) (pc' := 75) rfl (hb hby d3_68) rfl ((if0 _ _).trans (feq hc68).2) (by decide) (by decide) hr) ?_
      refine Runs.by (fun _ hr => XS.iconst X16.here hx rfl (hb hby d3_75) hr) ?_
      show Runs p e below _ (T16.setTop (mkF m 76 #[.val (.ref o0), .unset] [(.int (0 : Int32)), (.ref o0)]))
      obtain ⟨T17, h17, X17, e17, W17, st17⟩ := putFN X16 hx hZ hown (hw _ (List.mem_of_getElem? (i := 20) rfl)) Via.refl e16 (P_otherWay.other W2 (Or.inr (slot_ne (Or.inl (hw _ (List.mem_of_getElem? (i := 21) rfl))) (Or.inl (hw _ (List.mem_of_getElem? (i := 19) rfl))) (by decide) (t := .boolean) (t' := .long) (by decide) (by decide)))) (E0.wr W2) (Or.inl (hw _ (List.mem_of_getElem? (i := 21) rfl))) (hw _ (List.mem_of_getElem? (i := 2) rfl)) (ty := .boolean) (v' := (.int (0 : Int32))) (by decide) rfl (by first | rfl | exact fits_nar_bool _) (g := (mkF m 76 #[.val (.ref o0), .unset] [(.int (0 : Int32)), (.ref o0)])) rfl rfl (hb hby d3_76)
      have Fw17 := (P_otherWay.other W2 (Or.inr (slot_ne (Or.inl (hw _ (List.mem_of_getElem? (i := 21) rfl))) (Or.inl (hw _ (List.mem_of_getElem? (i := 19) rfl))) (by decide) (t := .boolean) (t' := .long) (by decide) (by decide)))).same W17
      have K18 : Keep h0 h17 [o0] := K3.wr W17 (Or.inl (List.mem_of_getElem? (i := 0) rfl))
      have N17 := Fr.snoc X17 N2 g_o0
      refine Runs.by st17 ?_
      refine Runs.by (fun _ hr => XS.aloadN X17.here hx rfl (hb hby d3_79) rfl rfl hr) ?_
      show Runs p e below _ (T17.setTop (mkF m 80 #[.val (.ref o0), .unset] [(.ref o0)]))
      obtain ⟨T19, X19, e19, st19⟩ := getF X17 hx hZ hown (host := "") (Or.inl (hw _ (List.mem_of_getElem? (i := 46) rfl))) Via.refl e17 ((P_sharedOverUnshared.other W2 (Or.inr (slot_ne (Or.inl (hw _ (List.mem_of_getElem? (i := 47) rfl))) (Or.inl (hw _ (List.mem_of_getElem? (i := 19) rfl))) (by decide) (t := .double) (t' := .long) (by decide) (by decide)))).other W17 (Or.inr (slot_ne (Or.inl (hw _ (List.mem_of_getElem? (i := 47) rfl))) (Or.inl (hw _ (List.mem_of_getElem? (i := 21) rfl))) (by decide) (t := .double) (t' := .boolean) (by decide) (by decide)))) (g := (mkF m 80 #[.val (.ref o0), .unset] [(.ref o0)])) rfl rfl (hb hby d3_80)
      refine Runs.by st19 ?_
      show Runs p e below _ (T19.setTop (mkF m 83 #[.val (.ref o0), .unset] [(.double qv)]))
      refine Runs.by (fun t hr => X19.ldc2DoubleC hx hown (mvT hZ (hw _ (List.mem_of_getElem? (i := 50) rfl))) (g := (mkF m 83 #[.val (.ref o0), .unset] [(.double qv)])) rfl (hb hby d3_83) t hr) ?_
      show Runs p e below _ (T19.setTop (mkF m 86 #[.val (.ref o0), .unset] [(.double (4606281698874543309 : UInt64)), (.double qv)]))
      refine Runs.by (fun _ hr => XS.dcmpS X19.here hx rfl (hb hby d3_86) rfl rfl hr) ?_
      by_cases hc87 : (0 : Int32) < (cmpValue (FP.dcmp qv (4606281698874543309 : UInt64)) .g)
      · -- pc 87: (0 : Int32) < (cmpValue (FP.dcmp qv (4606281698874543309 : UInt64)) .g)
        refine Runs.by (fun _ hr => XS.ifYes X19.here hx rfl (pc0 := 87) (pc' := 94) rfl (hb hby d3_87) rfl ((if0 _ _).trans (tlt hc87).2.2.1) (by decide) (by decide) hr) ?_
        refine Runs.by (fun _ hr => XS.iconst X19.here hx rfl (hb hby d3_94) hr) ?_
        show Runs p e below _ (T19.setTop (mkF m 95 #[.val (.ref o0), .unset] [(.int (0 : Int32))]))
        refine Runs.by (fun _ hr => XS.aloadN X19.here hx rfl (hb hby d3_95) rfl rfl hr) ?_
        show Runs p e below _ (T19.setTop (mkF m 96 #[.val (.ref o0), .unset] [(.ref o0), (.int (0 : Int32))]))
        obtain ⟨T20, X20, e20, st20⟩ := getF X19 hx hZ hown (host := "") (Or.inl (hw _ (List.mem_of_getElem? (i := 20) rfl))) Via.refl e19 Fw17 (g := (mkF m 96 #[.val (.ref o0), .unset] [(.ref o0), (.int (0 : Int32))])) rfl rfl (hb hby d3_96)
        refine Runs.by st20 ?_
        have hc99 : (0 : Int32) = (0 : Int32) := (by decide)
        refine Runs.by (fun _ hr => XS.icmpYes X20.here hx rfl (pc0 := 99) (pc' := 106) rfl (hb hby d3_99) rfl (teq hc99).1 (by decide) (by decide) hr) ?_
        refine Runs.by (fun _ hr => XS.iconst X20.here hx rfl (hb hby d3_106) hr) ?_
        show Runs p e below _ (T20.setTop (mkF m 107 #[.val (.ref o0), .unset] [(.int (0 : Int32))]))
        refine Runs.by (fun _ hr => XS.istoreN X20.here hx rfl (hb hby d3_107) rfl (l' := #[.val (.ref o0), .val (.int (0 : Int32))]) rfl hr) ?_
        refine Runs.by (fun _ hr => XS.iloadN X20.here hx rfl (hb hby d3_108) rfl  hr) ?_
        show Runs p e below _ (T20.setTop (mkF m 109 #[.val (.ref o0), .val (.int (0 : Int32))] [(.int (0 : Int32))]))
        refine Runs.ret X20 hx hrt hlk (Or.inl ⟨rfl, by simp, _, rfl⟩) (by rfl) (hb hby d3_109) (by decide) (by decide) ?_
        rw [e20]
        exact ⟨congrArg (fun z => some (Value.int z)) (Eq.symm (by rw [if_neg hc18, if_neg hc29, if_pos hc87])), N17, K18, ((E0.wr W2).wr W17), ((P_nanosPerStep.other W2 (Or.inr (slot_ne (Or.inr (hw _ (List.mem_of_getElem? (i := 12) rfl))) (Or.inl (hw _ (List.mem_of_getElem? (i := 19) rfl))) (by decide) (t := (.array .double)) (t' := .long) (by decide) (by decide)))).other W17 (Or.inr (slot_ne (Or.inr (hw _ (List.mem_of_getElem? (i := 12) rfl))) (Or.inl (hw _ (List.mem_of_getElem? (i := 21) rfl))) (by decide) (t := (.array .double)) (t' := .boolean) (by decide) (by decide)))), (Fw2.other W17 (Or.inr (slot_ne (Or.inl (hw _ (List.mem_of_getElem? (i := 19) rfl))) (Or.inl (hw _ (List.mem_of_getElem? (i := 21) rfl))) (by decide) (t := .long) (t' := .boolean) (by decide) (by decide)))), Fw17, ((P_started.other W2 (Or.inr (slot_ne (Or.inl (hw _ (List.mem_of_getElem? (i := 28) rfl))) (Or.inl (hw _ (List.mem_of_getElem? (i := 19) rfl))) (by decide) (t := .long) (t' := .long) (by decide) (by decide)))).other W17 (Or.inr (slot_ne (Or.inl (hw _ (List.mem_of_getElem? (i := 28) rfl))) (Or.inl (hw _ (List.mem_of_getElem? (i := 21) rfl))) (by decide) (t := .long) (t' := .boolean) (by decide) (by decide)))), ((P_shared.other W2 (Or.inr (slot_ne (Or.inl (hw _ (List.mem_of_getElem? (i := 30) rfl))) (Or.inl (hw _ (List.mem_of_getElem? (i := 19) rfl))) (by decide) (t := .boolean) (t' := .long) (by decide) (by decide)))).other W17 (Or.inr (slot_ne (Or.inl (hw _ (List.mem_of_getElem? (i := 30) rfl))) (Or.inl (hw _ (List.mem_of_getElem? (i := 21) rfl))) (by decide) (t := .boolean) (t' := .boolean) (by decide) (by decide)))), ((P_steps.other W2 (Or.inr (slot_ne (Or.inl (hw _ (List.mem_of_getElem? (i := 32) rfl))) (Or.inl (hw _ (List.mem_of_getElem? (i := 19) rfl))) (by decide) (t := .long) (t' := .long) (by decide) (by decide)))).other W17 (Or.inr (slot_ne (Or.inl (hw _ (List.mem_of_getElem? (i := 32) rfl))) (Or.inl (hw _ (List.mem_of_getElem? (i := 21) rfl))) (by decide) (t := .long) (t' := .boolean) (by decide) (by decide)))), ((P_sharedOverUnshared.other W2 (Or.inr (slot_ne (Or.inl (hw _ (List.mem_of_getElem? (i := 47) rfl))) (Or.inl (hw _ (List.mem_of_getElem? (i := 19) rfl))) (by decide) (t := .double) (t' := .long) (by decide) (by decide)))).other W17 (Or.inr (slot_ne (Or.inl (hw _ (List.mem_of_getElem? (i := 47) rfl))) (Or.inl (hw _ (List.mem_of_getElem? (i := 21) rfl))) (by decide) (t := .double) (t' := .boolean) (by decide) (by decide)))), ((VT.other W2 ne_ta_o0).other W17 ne_ta_o0)⟩
      · -- pc 87: not (0 : Int32) < (cmpValue (FP.dcmp qv (4606281698874543309 : UInt64)) .g)
        refine Runs.by (fun _ hr => XS.ifNo X19.here hx rfl (hb hby d3_87) rfl ((if0 _ _).trans (flt hc87).2.2.1) hr) ?_
        refine Runs.by (fun _ hr => XS.iconst X19.here hx rfl (hb hby d3_90) hr) ?_
        show Runs p e below _ (T19.setTop (mkF m 91 #[.val (.ref o0), .unset] [(.int (1 : Int32))]))
        refine Runs.by (fun _ hr => XS.goto X19.here hx rfl (pc0 := 91) (pc' := 95) rfl (hb hby d3_91) (by decide) (by decide) hr) ?_
        refine Runs.by (fun _ hr => XS.aloadN X19.here hx rfl (hb hby d3_95) rfl rfl hr) ?_
        show Runs p e below _ (T19.setTop (mkF m 96 #[.val (.ref o0), .unset] [(.ref o0), (.int (1 : Int32))]))
        obtain ⟨T21, X21, e21, st21⟩ := getF X19 hx hZ hown (host := "") (Or.inl (hw _ (List.mem_of_getElem? (i := 20) rfl))) Via.refl e19 Fw17 (g := (mkF m 96 #[.val (.ref o0), .unset] [(.ref o0), (.int (1 : Int32))])) rfl rfl (hb hby d3_96)
        refine Runs.by st21 ?_
        have hc99 : ¬ ((1 : Int32) = (0 : Int32)) := (by decide)
        refine Runs.by (fun _ hr => XS.icmpNo X21.here hx rfl (hb hby d3_99) rfl (feq hc99).1 hr) ?_
        refine Runs.by (fun _ hr => XS.iconst X21.here hx rfl (hb hby d3_102) hr) ?_
        show Runs p e below _ (T21.setTop (mkF m 103 #[.val (.ref o0), .unset] [(.int (1 : Int32))]))
        refine Runs.by (fun _ hr => XS.goto X21.here hx rfl (pc0 := 103) (pc' := 107) rfl (hb hby d3_103) (by decide) (by decide) hr) ?_
        refine Runs.by (fun _ hr => XS.istoreN X21.here hx rfl (hb hby d3_107) rfl (l' := #[.val (.ref o0), .val (.int (1 : Int32))]) rfl hr) ?_
        refine Runs.by (fun _ hr => XS.iloadN X21.here hx rfl (hb hby d3_108) rfl  hr) ?_
        show Runs p e below _ (T21.setTop (mkF m 109 #[.val (.ref o0), .val (.int (1 : Int32))] [(.int (1 : Int32))]))
        refine Runs.ret X21 hx hrt hlk (Or.inl ⟨rfl, by simp, _, rfl⟩) (by rfl) (hb hby d3_109) (by decide) (by decide) ?_
        rw [e21]
        exact ⟨congrArg (fun z => some (Value.int z)) (Eq.symm (by rw [if_neg hc18, if_neg hc29, if_neg hc87])), N17, K18, ((E0.wr W2).wr W17), ((P_nanosPerStep.other W2 (Or.inr (slot_ne (Or.inr (hw _ (List.mem_of_getElem? (i := 12) rfl))) (Or.inl (hw _ (List.mem_of_getElem? (i := 19) rfl))) (by decide) (t := (.array .double)) (t' := .long) (by decide) (by decide)))).other W17 (Or.inr (slot_ne (Or.inr (hw _ (List.mem_of_getElem? (i := 12) rfl))) (Or.inl (hw _ (List.mem_of_getElem? (i := 21) rfl))) (by decide) (t := (.array .double)) (t' := .boolean) (by decide) (by decide)))), (Fw2.other W17 (Or.inr (slot_ne (Or.inl (hw _ (List.mem_of_getElem? (i := 19) rfl))) (Or.inl (hw _ (List.mem_of_getElem? (i := 21) rfl))) (by decide) (t := .long) (t' := .boolean) (by decide) (by decide)))), Fw17, ((P_started.other W2 (Or.inr (slot_ne (Or.inl (hw _ (List.mem_of_getElem? (i := 28) rfl))) (Or.inl (hw _ (List.mem_of_getElem? (i := 19) rfl))) (by decide) (t := .long) (t' := .long) (by decide) (by decide)))).other W17 (Or.inr (slot_ne (Or.inl (hw _ (List.mem_of_getElem? (i := 28) rfl))) (Or.inl (hw _ (List.mem_of_getElem? (i := 21) rfl))) (by decide) (t := .long) (t' := .boolean) (by decide) (by decide)))), ((P_shared.other W2 (Or.inr (slot_ne (Or.inl (hw _ (List.mem_of_getElem? (i := 30) rfl))) (Or.inl (hw _ (List.mem_of_getElem? (i := 19) rfl))) (by decide) (t := .boolean) (t' := .long) (by decide) (by decide)))).other W17 (Or.inr (slot_ne (Or.inl (hw _ (List.mem_of_getElem? (i := 30) rfl))) (Or.inl (hw _ (List.mem_of_getElem? (i := 21) rfl))) (by decide) (t := .boolean) (t' := .boolean) (by decide) (by decide)))), ((P_steps.other W2 (Or.inr (slot_ne (Or.inl (hw _ (List.mem_of_getElem? (i := 32) rfl))) (Or.inl (hw _ (List.mem_of_getElem? (i := 19) rfl))) (by decide) (t := .long) (t' := .long) (by decide) (by decide)))).other W17 (Or.inr (slot_ne (Or.inl (hw _ (List.mem_of_getElem? (i := 32) rfl))) (Or.inl (hw _ (List.mem_of_getElem? (i := 21) rfl))) (by decide) (t := .long) (t' := .boolean) (by decide) (by decide)))), ((P_sharedOverUnshared.other W2 (Or.inr (slot_ne (Or.inl (hw _ (List.mem_of_getElem? (i := 47) rfl))) (Or.inl (hw _ (List.mem_of_getElem? (i := 19) rfl))) (by decide) (t := .double) (t' := .long) (by decide) (by decide)))).other W17 (Or.inr (slot_ne (Or.inl (hw _ (List.mem_of_getElem? (i := 47) rfl))) (Or.inl (hw _ (List.mem_of_getElem? (i := 21) rfl))) (by decide) (t := .double) (t' := .boolean) (by decide) (by decide)))), ((VT.other W2 ne_ta_o0).other W17 ne_ta_o0)⟩
def Q_rm3_2 (Z : State) (o0 : Addr) (ta : Addr) (kt : ClassId) (x0 x1 qv : UInt64) (st sp : Int64) (sh : Int32) (h0 : Heap) (n0 : Nat) (v : Option Value) (h : Heap) (L : List Loc) : Prop := v = some (.int (if (cmpValue (FP.dcmp x0 FP.dconst0) .l) = (0 : Int32) then (0 : Int32) else if (cmpValue (FP.dcmp x1 FP.dconst0) .l) = (0 : Int32) then (1 : Int32) else if (0 : Int32) < (cmpValue (FP.dcmp qv (4606281698874543309 : UInt64)) .g) then (0 : Int32) else (1 : Int32))) ∧ Fr n0 L ∧ Keep h0 h [o0] ∧ Exa Z h o0 "com/example/dialtone/dialtone/workload/Workers$Sharing" ∧ Fld Z h o0 "com/example/dialtone/dialtone/workload/Workers$Sharing" "nanosPerStep" "[D" (.ref ta) ∧ Fld Z h o0 "com/example/dialtone/dialtone/workload/Workers$Sharing" "rounds" "J" (.long (3 : Int64)) ∧ Fld Z h o0 "com/example/dialtone/dialtone/workload/Workers$Sharing" "otherWay" "Z" (.int (0 : Int32)) ∧ Fld Z h o0 "com/example/dialtone/dialtone/workload/Workers$Sharing" "started" "J" (.long st) ∧ Fld Z h o0 "com/example/dialtone/dialtone/workload/Workers$Sharing" "shared" "Z" (.int sh) ∧ Fld Z h o0 "com/example/dialtone/dialtone/workload/Workers$Sharing" "steps" "J" (.long sp) ∧ Fld Z h o0 "com/example/dialtone/dialtone/workload/Workers$Sharing" "sharedOverUnshared" "D" (.double qv) ∧ Arv Z h ta kt .double (2 : Int32) [(.double x0), (.double x1)] (.double (0 : UInt64))
set_option maxRecDepth 65536 in
set_option maxHeartbeats 40000000 in
theorem rm3_2 (l : Launch) (Z : State) (a0 : Array Value) (hw : ∀ d ∈ tables_1, d.before a0 Z = true) (ws : List Jvm.Cond) (o0 : Addr) (ta : Addr) (kt : ClassId) (x0 x1 qv : UInt64) (st sp : Int64) (sh : Int32) (h0 : Heap) (n0 : Nat) (Z0 : n0 ≤ h0.size) (E0 : Exa Z h0 o0 "com/example/dialtone/dialtone/workload/Workers$Sharing") (g_o0 : n0 ≤ o0) (g_ta : n0 ≤ ta) (ne_ta_o0 : ta ≠ o0) (P_nanosPerStep : Fld Z h0 o0 "com/example/dialtone/dialtone/workload/Workers$Sharing" "nanosPerStep" "[D" (.ref ta)) (P_rounds : Fld Z h0 o0 "com/example/dialtone/dialtone/workload/Workers$Sharing" "rounds" "J" (.long (2 : Int64))) (P_otherWay : Fld Z h0 o0 "com/example/dialtone/dialtone/workload/Workers$Sharing" "otherWay" "Z" (.int (0 : Int32))) (P_started : Fld Z h0 o0 "com/example/dialtone/dialtone/workload/Workers$Sharing" "started" "J" (.long st)) (P_shared : Fld Z h0 o0 "com/example/dialtone/dialtone/workload/Workers$Sharing" "shared" "Z" (.int sh)) (P_steps : Fld Z h0 o0 "com/example/dialtone/dialtone/workload/Workers$Sharing" "steps" "J" (.long sp)) (P_sharedOverUnshared : Fld Z h0 o0 "com/example/dialtone/dialtone/workload/Workers$Sharing" "sharedOverUnshared" "D" (.double qv)) (VT : Arv Z h0 ta kt .double (2 : Int32) [(.double x0), (.double x1)] (.double (0 : UInt64))) :
    MetFree l (⟨"com/example/dialtone/dialtone/workload/Workers$Sharing", "shares", "()Z"⟩ : MethodName) (head1 (Jvm.Cond.code (⟨"com/example/dialtone/dialtone/workload/Workers$Sharing", "shares", "()Z"⟩ : MethodName) prog_268_method_2_code 2 (some .boolean) :: ws) ({ frames := 0, cells := 0, slots := 0, locals := 0 } : Room)) (fun a U => a = #[(.ref o0)] ∧ Z.Warmed39 U.vm ∧ U.heap = h0) (fun _ _ _ _ _ => True) (fun _ U o U' => ∃ v L, o = .returned v ∧ Q_rm3_2 Z o0 ta kt x0 x1 qv st sp sh h0 n0 v U'.heap L ∧ FrameEnd U o U' L ({ frames := 0, cells := 0, slots := 0, locals := 0 } : Room).cells ({ frames := 0, cells := 0, slots := 0, locals := 0 } : Room).slots) := by
  refine MetFree.of_bodySF (plainFor_of_name pn_com_example_dialtone_dialtone_workload_Workers_Sharing) hisR ?_
  intro p e s m args below meth c s₁ Bd hml0 hP hK
  obtain ⟨rfl, hZ, hh⟩ := hP
  have hx := Bd.exec
  have hby := Bd.bytes
  have hlk := BodyLoose.notSynchronized Bd
  have hrt := Bd.returns
  have hml : c.maxLocals = 2 := hml0
  have hown : s.vm.findClass "com/example/dialtone/dialtone/workload/Workers$Sharing" = some m.cls := findClass_of_methodNamed Bd.named
  have hnm := (name_of_methodNamed Bd.named Bd.method).1
  have X0 : Stand p l e ({ frames := 0, cells := 0, slots := 0, locals := 0 } : Room) s m #[(.ref o0)] below meth c s₁ [] 0 0 := Stand.of_body Bd
  have e0 : s₁.heap = h0 := by rw [← hh, Bd.state]; rfl
  have N0 := Fr.nil n0
  have K0 : Keep h0 h0 [o0] := Keep.refl h0 _
  show Runs p e below (QE s (Q_rm3_2 Z o0 ta kt x0 x1 qv st sp sh h0 n0) ({ frames := 0, cells := 0, slots := 0, locals := 0 } : Room).cells ({ frames := 0, cells := 0, slots := 0, locals := 0 } : Room).slots) (s₁.setTop (entryFrame m #[(.ref o0)] 2))
  rw [ef_3_2 m o0]
  refine Runs.by (fun _ hr => XS.aloadN X0.here hx rfl (hb hby d3_0) rfl rfl hr) ?_
  refine Runs.by (fun _ hr => XS.dup X0.here hx rfl (hb hby d3_1) rfl rfl hr) ?_
  show Runs p e below _ (s₁.setTop (mkF m 2 #[.val (.ref o0), .unset] [(.ref o0), (.ref o0)]))
  obtain ⟨T1, X1, e1, st1⟩ := getF X0 hx hZ hown (host := "") (Or.inl (hw _ (List.mem_of_getElem? (i := 18) rfl))) Via.refl e0 P_rounds (g := (mkF m 2 #[.val (.ref o0), .unset] [(.ref o0), (.ref o0)])) rfl rfl (hb hby d3_2)
  refine Runs.by st1 ?_
  refine Runs.by (fun _ hr => XS.lconst X1.here hx rfl (hb hby d3_5) hr) ?_
  refine Runs.by (fun _ hr => XS.ladd X1.here hx rfl (hb hby d3_6) rfl hr) ?_
  show Runs p e below _ (T1.setTop (mkF m 7 #[.val (.ref o0), .unset] [(.long (3 : Int64)), (.ref o0)]))
  obtain ⟨T2, h2, X2, e2, W2, st2⟩ := putF X1 hx hZ hown (host := "") (Or.inl (hw _ (List.mem_of_getElem? (i := 18) rfl))) Via.refl e1 P_rounds E0 (Or.inl (hw _ (List.mem_of_getElem? (i := 19) rfl))) (hw _ (List.mem_of_getElem? (i := 2) rfl)) (ty := .long) (by decide) rfl rfl (g := (mkF m 7 #[.val (.ref o0), .unset] [(.long (3 : Int64)), (.ref o0)])) rfl rfl (hb hby d3_7)
  have Fw2 := P_rounds.same W2
  have K3 : Keep h0 h2 [o0] := K0.wr W2 (Or.inl (List.mem_of_getElem? (i := 0) rfl))
  have N2 := Fr.snoc X2 N0 g_o0
  refine Runs.by st2 ?_
  refine Runs.by (fun _ hr => XS.aloadN X2.here hx rfl (hb hby d3_10) rfl rfl hr) ?_
  show Runs p e below _ (T2.setTop (mkF m 11 #[.val (.ref o0), .unset] [(.ref o0)]))
  obtain ⟨T4, X4, e4, st4⟩ := getF X2 hx hZ hown (host := "") (Or.inl (hw _ (List.mem_of_getElem? (i := 11) rfl))) Via.refl e2 (P_nanosPerStep.other W2 (Or.inr (slot_ne (Or.inr (hw _ (List.mem_of_getElem? (i := 12) rfl))) (Or.inl (hw _ (List.mem_of_getElem? (i := 19) rfl))) (by decide) (t := (.array .double)) (t' := .long) (by decide) (by decide)))) (g := (mkF m 11 #[.val (.ref o0), .unset] [(.ref o0)])) rfl rfl (hb hby d3_11)
  refine Runs.by st4 ?_
  refine Runs.by (fun _ hr => XS.iconst X4.here hx rfl (hb hby d3_14) hr) ?_
  show Runs p e below _ (T4.setTop (mkF m 15 #[.val (.ref o0), .unset] [(.int (0 : Int32)), (.ref ta)]))
  obtain ⟨cl5, Ar5, -, S5, N5', H5, -⟩ := id (VT.other W2 ne_ta_o0)
  have hin5 : ¬ ((0 : Int32) < 0 ∨ cl5.slots.size ≤ ((0 : Int32)).toNatClampNeg) := inb_of S5 ⟨by decide, by decide⟩
  have hat5 := H5.at hin5 (v := (.double x0)) rfl
  refine Runs.by (fun t hr => X4.daload hx (j := (0 : Int32)) (v := (.double x0)) (by rw [e4]; exact Ar5.1) (State.isArrayOf_alike hZ.alike Ar5.2.1) Ar5.2.2 hin5 hat5 (g := (mkF m 15 #[.val (.ref o0), .unset] [(.int (0 : Int32)), (.ref ta)])) rfl rfl (hb hby d3_15) t hr) ?_
  refine Runs.by (fun _ hr => XS.dconst0 X4.here hx rfl (hb hby d3_16) rfl hr) ?_
  show Runs p e below _ (T4.setTop (mkF m 17 #[.val (.ref o0), .unset] [(.double FP.dconst0), (.double x0)]))
  refine Runs.by (fun _ hr => XS.dcmpS X4.here hx rfl (hb hby d3_17) rfl rfl hr) ?_
  by_cases hc18 : (cmpValue (FP.dcmp x0 FP.dconst0) .l) = (0 : Int32)
  · -- pc 18: (cmpValue (FP.dcmp x0 FP.dconst0) .l) = (0 : Int32)
    refine Runs.by (fun _ hr => XS.ifYes X4.here hx rfl (pc0 := 18) (pc' := 32) rfl (hb hby d3_18) rfl ((if0 _ _).trans (teq hc18).1) (by decide) (by decide) hr) ?_
    refine Runs.by (fun _ hr => XS.aloadN X4.here hx rfl (hb hby d3_32) rfl rfl hr) ?_
    show Runs p e below _ (T4.setTop (mkF m 33 #[.val (.ref o0), .unset] [(.ref o0)]))
    obtain ⟨T6, X6, e6, st6⟩ := getF X4 hx hZ hown (host := "") (Or.inl (hw _ (List.mem_of_getElem? (i := 11) rfl))) Via.refl e4 (P_nanosPerStep.other W2 (Or.inr (slot_ne (Or.inr (hw _ (List.mem_of_getElem? (i := 12) rfl))) (Or.inl (hw _ (List.mem_of_getElem? (i := 19) rfl))) (by decide) (t := (.array .double)) (t' := .long) (by decide) (by decide)))) (g := (mkF m 33 #[.val (.ref o0), .unset] [(.ref o0)])) rfl rfl (hb hby d3_33)
    refine Runs.by st6 ?_
    refine Runs.by (fun _ hr => XS.iconst X6.here hx rfl (hb hby d3_36) hr) ?_
    show Runs p e below _ (T6.setTop (mkF m 37 #[.val (.ref o0), .unset] [(.int (0 : Int32)), (.ref ta)]))
    obtain ⟨cl7, Ar7, -, S7, N7', H7, -⟩ := id (VT.other W2 ne_ta_o0)
    have hin7 : ¬ ((0 : Int32) < 0 ∨ cl7.slots.size ≤ ((0 : Int32)).toNatClampNeg) := inb_of S7 ⟨by decide, by decide⟩
    have hat7 := H7.at hin7 (v := (.double x0)) rfl
    refine Runs.by (fun t hr => X6.daload hx (j := (0 : Int32)) (v := (.double x0)) (by rw [e6]; exact Ar7.1) (State.isArrayOf_alike hZ.alike Ar7.2.1) Ar7.2.2 hin7 hat7 (g := (mkF m 37 #[.val (.ref o0), .unset] [(.int (0 : Int32)), (.ref ta)])) rfl rfl (hb hby d3_37) t hr) ?_
    refine Runs.by (fun _ hr => XS.dconst0 X6.here hx rfl (hb hby d3_38) rfl hr) ?_
    show Runs p e below _ (T6.setTop (mkF m 39 #[.val (.ref o0), .unset] [(.double FP.dconst0), (.double x0)]))
    refine Runs.by (fun _ hr => XS.dcmpS X6.here hx rfl (hb hby d3_39) rfl rfl hr) ?_
    have hc40 : (cmpValue (FP.dcmp x0 FP.dconst0) .l) = (0 : Int32) := hc18
    refine Runs.by (fun _ hr => XS.ifYes X6.here hx rfl (pc0 := 40) (pc' := 47) rfl (hb hby d3_40) rfl ((if0 _ _).trans (teq hc40).1) (by decide) (by decide) hr) ?_
    refine Runs.by (fun _ hr => XS.iconst X6.here hx rfl (hb hby d3_47) hr) ?_
    show Runs p e below _ (T6.setTop (mkF m 48 #[.val (.ref o0), .unset] [(.int (0 : Int32))]))
    refine Runs.by (fun _ hr => XS.istoreN X6.here hx rfl (hb hby d3_48) rfl (l' := #[.val (.ref o0), .val (.int (0 : Int32))]) rfl hr) ?_
    refine Runs.by (fun _ hr => XS.aloadN X6.here hx rfl (hb hby d3_49) rfl rfl hr) ?_
    refine Runs.by (fun _ hr => XS.iconst X6.here hx rfl (hb hby d3_50) hr) ?_
    show Runs p e below _ (T6.setTop (mkF m 51 #[.val (.ref o0), .val (.int (0 : Int32))] [(.int (0 : Int32)), (.ref o0)]))
    obtain ⟨T8, h8, X8, e8, W8, st8⟩ := putFN X6 hx hZ hown (hw _ (List.mem_of_getElem? (i := 20) rfl)) Via.refl e6 (P_otherWay.other W2 (Or.inr (slot_ne (Or.inl (hw _ (List.mem_of_getElem? (i := 21) rfl))) (Or.inl (hw _ (List.mem_of_getElem? (i := 19) rfl))) (by decide) (t := .boolean) (t' := .long) (by decide) (by decide)))) (E0.wr W2) (Or.inl (hw _ (List.mem_of_getElem? (i := 21) rfl))) (hw _ (List.mem_of_getElem? (i := 2) rfl)) (ty := .boolean) (v' := (.int (0 : Int32))) (by decide) rfl (by first | rfl | exact fits_nar_bool _) (g := (mkF m 51 #[.val (.ref o0), .val (.int (0 : Int32))] [(.int (0 : Int32)), (.ref o0)])) rfl rfl (hb hby d3_51)
    have Fw8 := (P_otherWay.other W2 (Or.inr (slot_ne (Or.inl (hw _ (List.mem_of_getElem? (i := 21) rfl))) (Or.inl (hw _ (List.mem_of_getElem? (i := 19) rfl))) (by decide) (t := .boolean) (t' := .long) (by decide) (by decide)))).same W8
    have K9 : Keep h0 h8 [o0] := K3.wr W8 (Or.inl (List.mem_of_getElem? (i := 0) rfl))
    have N8 := Fr.snoc X8 N2 g_o0
    refine Runs.by st8 ?_
    refine Runs.by (fun _ hr => XS.goto X8.here hx rfl (pc0 := 54) (pc' := 108) rfl (hb hby d3_54) (by decide) (by decide) hr) ?_
    refine Runs.by (fun _ hr => XS.iloadN X8.here hx rfl (hb hby d3_108) rfl  hr) ?_
    show Runs p e below _ (T8.setTop (mkF m 109 #[.val (.ref o0), .val (.int (0 : Int32))] [(.int (0 : Int32))]))
    refine Runs.ret X8 hx hrt hlk (Or.inl ⟨rfl, by simp, _, rfl⟩) (by rfl) (hb hby d3_109) (by decide) (by decide) ?_
    rw [e8]
    exact ⟨congrArg (fun z => some (Value.int z)) (Eq.symm (by rw [if_pos hc18])), N8, K9, ((E0.wr W2).wr W8), ((P_nanosPerStep.other W2 (Or.inr (slot_ne (Or.inr (hw _ (List.mem_of_getElem? (i := 12) rfl))) (Or.inl (hw _ (List.mem_of_getElem? (i := 19) rfl))) (by decide) (t := (.array .double)) (t' := .long) (by decide) (by decide)))).other W8 (Or.inr (slot_ne (Or.inr (hw _ (List.mem_of_getElem? (i := 12) rfl))) (Or.inl (hw _ (List.mem_of_getElem? (i := 21) rfl))) (by decide) (t := (.array .double)) (t' := .boolean) (by decide) (by decide)))), (Fw2.other W8 (Or.inr (slot_ne (Or.inl (hw _ (List.mem_of_getElem? (i := 19) rfl))) (Or.inl (hw _ (List.mem_of_getElem? (i := 21) rfl))) (by decide) (t := .long) (t' := .boolean) (by decide) (by decide)))), Fw8, ((P_started.other W2 (Or.inr (slot_ne (Or.inl (hw _ (List.mem_of_getElem? (i := 28) rfl))) (Or.inl (hw _ (List.mem_of_getElem? (i := 19) rfl))) (by decide) (t := .long) (t' := .long) (by decide) (by decide)))).other W8 (Or.inr (slot_ne (Or.inl (hw _ (List.mem_of_getElem? (i := 28) rfl))) (Or.inl (hw _ (List.mem_of_getElem? (i := 21) rfl))) (by decide) (t := .long) (t' := .boolean) (by decide) (by decide)))), ((P_shared.other W2 (Or.inr (slot_ne (Or.inl (hw _ (List.mem_of_getElem? (i := 30) rfl))) (Or.inl (hw _ (List.mem_of_getElem? (i := 19) rfl))) (by decide) (t := .boolean) (t' := .long) (by decide) (by decide)))).other W8 (Or.inr (slot_ne (Or.inl (hw _ (List.mem_of_getElem? (i := 30) rfl))) (Or.inl (hw _ (List.mem_of_getElem? (i := 21) rfl))) (by decide) (t := .boolean) (t' := .boolean) (by decide) (by decide)))), ((P_steps.other W2 (Or.inr (slot_ne (Or.inl (hw _ (List.mem_of_getElem? (i := 32) rfl))) (Or.inl (hw _ (List.mem_of_getElem? (i := 19) rfl))) (by decide) (t := .long) (t' := .long) (by decide) (by decide)))).other W8 (Or.inr (slot_ne (Or.inl (hw _ (List.mem_of_getElem? (i := 32) rfl))) (Or.inl (hw _ (List.mem_of_getElem? (i := 21) rfl))) (by decide) (t := .long) (t' := .boolean) (by decide) (by decide)))), ((P_sharedOverUnshared.other W2 (Or.inr (slot_ne (Or.inl (hw _ (List.mem_of_getElem? (i := 47) rfl))) (Or.inl (hw _ (List.mem_of_getElem? (i := 19) rfl))) (by decide) (t := .double) (t' := .long) (by decide) (by decide)))).other W8 (Or.inr (slot_ne (Or.inl (hw _ (List.mem_of_getElem? (i := 47) rfl))) (Or.inl (hw _ (List.mem_of_getElem? (i := 21) rfl))) (by decide) (t := .double) (t' := .boolean) (by decide) (by decide)))), ((VT.other W2 ne_ta_o0).other W8 ne_ta_o0)⟩
  · -- pc 18: not (cmpValue (FP.dcmp x0 FP.dconst0) .l) = (0 : Int32)
    refine Runs.by (fun _ hr => XS.ifNo X4.here hx rfl (hb hby d3_18) rfl ((if0 _ _).trans (feq hc18).1) hr) ?_
    refine Runs.by (fun _ hr => XS.aloadN X4.here hx rfl (hb hby d3_21) rfl rfl hr) ?_
    show Runs p e below _ (T4.setTop (mkF m 22 #[.val (.ref o0), .unset] [(.ref o0)]))
    obtain ⟨T10, X10, e10, st10⟩ := getF X4 hx hZ hown (host := "") (Or.inl (hw _ (List.mem_of_getElem? (i := 11) rfl))) Via.refl e4 (P_nanosPerStep.other W2 (Or.inr (slot_ne (Or.inr (hw _ (List.mem_of_getElem? (i := 12) rfl))) (Or.inl (hw _ (List.mem_of_getElem? (i := 19) rfl))) (by decide) (t := (.array .double)) (t' := .long) (by decide) (by decide)))) (g := (mkF m 22 #[.val (.ref o0), .unset] [(.ref o0)])) rfl rfl (hb hby d3_22)
    refine Runs.by st10 ?_
    refine Runs.by (fun _ hr => XS.iconst X10.here hx rfl (hb hby d3_25) hr) ?_
    show Runs p e below _ (T10.setTop (mkF m 26 #[.val (.ref o0), .unset] [(.int (1 : Int32)), (.ref ta)]))
    obtain ⟨cl11, Ar11, -, S11, N11', H11, -⟩ := id (VT.other W2 ne_ta_o0)
    have hin11 : ¬ ((1 : Int32) < 0 ∨ cl11.slots.size ≤ ((1 : Int32)).toNatClampNeg) := inb_of S11 ⟨by decide, by decide⟩
    have hat11 := H11.at hin11 (v := (.double x1)) rfl
    refine Runs.by (fun t hr => X10.daload hx (j := (1 : Int32)) (v := (.double x1)) (by rw [e10]; exact Ar11.1) (State.isArrayOf_alike hZ.alike Ar11.2.1) Ar11.2.2 hin11 hat11 (g := (mkF m 26 #[.val (.ref o0), .unset] [(.int (1 : Int32)), (.ref ta)])) rfl rfl (hb hby d3_26) t hr) ?_
    refine Runs.by (fun _ hr => XS.dconst0 X10.here hx rfl (hb hby d3_27) rfl hr) ?_
    show Runs p e below _ (T10.setTop (mkF m 28 #[.val (.ref o0), .unset] [(.double FP.dconst0), (.double x1)]))
    refine Runs.by (fun _ hr => XS.dcmpS X10.here hx rfl (hb hby d3_28) rfl rfl hr) ?_
    by_cases hc29 : (cmpValue (FP.dcmp x1 FP.dconst0) .l) = (0 : Int32)
    · -- pc 29: (cmpValue (FP.dcmp x1 FP.dconst0) .l) = (0 : Int32)
      refine Runs.by (fun _ hr => XS.ifNo X10.here hx rfl (hb hby d3_29) rfl ((if0 _ _).trans (teq hc29).2) hr) ?_
      refine Runs.by (fun _ hr => XS.aloadN X10.here hx rfl (hb hby d3_32) rfl rfl hr) ?_
      show Runs p e below _ (T10.setTop (mkF m 33 #[.val (.ref o0), .unset] [(.ref o0)]))
      obtain ⟨T12, X12, e12, st12⟩ := getF X10 hx hZ hown (host := "") (Or.inl (hw _ (List.mem_of_getElem? (i := 11) rfl))) Via.refl e10 (P_nanosPerStep.other W2 (Or.inr (slot_ne (Or.inr (hw _ (List.mem_of_getElem? (i := 12) rfl))) (Or.inl (hw _ (List.mem_of_getElem? (i := 19) rfl))) (by decide) (t := (.array .double)) (t' := .long) (by decide) (by decide)))) (g := (mkF m 33 #[.val (.ref o0), .unset] [(.ref o0)])) rfl rfl (hb hby d3_33)
      refine Runs.by st12 ?_
      refine Runs.by (fun _ hr => XS.iconst X12.here hx rfl (hb hby d3_36) hr) ?_
      show Runs p e below _ (T12.setTop (mkF m 37 #[.val (.ref o0), .unset] [(.int (0 : Int32)), (.ref ta)]))
      obtain ⟨cl13, Ar13, -, S13, N13', H13, -⟩ := id (VT.other W2 ne_ta_o0)
      have hin13 : ¬ ((0 : Int32) < 0 ∨ cl13.slots.size ≤ ((0 : Int32)).toNatClampNeg) := inb_of S13 ⟨by decide, by decide⟩
      have hat13 := H13.at hin13 (v := (.double x0)) rfl
      refine Runs.by (fun t hr => X12.daload hx (j := (0 : Int32)) (v := (.double x0)) (by rw [e12]; exact Ar13.1) (State.isArrayOf_alike hZ.alike Ar13.2.1) Ar13.2.2 hin13 hat13 (g := (mkF m 37 #[.val (.ref o0), .unset] [(.int (0 : Int32)), (.ref ta)])) rfl rfl (hb hby d3_37) t hr) ?_
      refine Runs.by (fun _ hr => XS.dconst0 X12.here hx rfl (hb hby d3_38) rfl hr) ?_
      show Runs p e below _ (T12.setTop (mkF m 39 #[.val (.ref o0), .unset] [(.double FP.dconst0), (.double x0)]))
      refine Runs.by (fun _ hr => XS.dcmpS X12.here hx rfl (hb hby d3_39) rfl rfl hr) ?_
      have hc40 : ¬ ((cmpValue (FP.dcmp x0 FP.dconst0) .l) = (0 : Int32)) := hc18
      refine Runs.by (fun _ hr => XS.ifNo X12.here hx rfl (hb hby d3_40) rfl ((if0 _ _).trans (feq hc40).1) hr) ?_
      refine Runs.by (fun _ hr => XS.iconst X12.here hx rfl (hb hby d3_43) hr) ?_
      show Runs p e below _ (T12.setTop (mkF m 44 #[.val (.ref o0), .unset] [(.int (1 : Int32))]))
      refine Runs.by (fun _ hr => XS.goto X12.here hx rfl (pc0 := 44) (pc' := 48) rfl (hb hby d3_44) (by decide) (by decide) hr) ?_
      refine Runs.by (fun _ hr => XS.istoreN X12.here hx rfl (hb hby d3_48) rfl (l' := #[.val (.ref o0), .val (.int (1 : Int32))]) rfl hr) ?_
      refine Runs.by (fun _ hr => XS.aloadN X12.here hx rfl (hb hby d3_49) rfl rfl hr) ?_
      show Runs p e below _ (T12.setTop (mkF m 50 #[.val (.ref o0), .val (.int (1 : Int32))] [(.ref o0)]))
      refine Runs.by (fun _ hr => XS.iconst X12.here hx rfl (hb hby d3_50) hr) ?_
      show Runs p e below _ (T12.setTop (mkF m 51 #[.val (.ref o0), .val (.int (1 : Int32))] [(.int (0 : Int32)), (.ref o0)]))
      obtain ⟨T14, h14, X14, e14, W14, st14⟩ := putFN X12 hx hZ hown (hw _ (List.mem_of_getElem? (i := 20) rfl)) Via.refl e12 (P_otherWay.other W2 (Or.inr (slot_ne (Or.inl (hw _ (List.mem_of_getElem? (i := 21) rfl))) (Or.inl (hw _ (List.mem_of_getElem? (i := 19) rfl))) (by decide) (t := .boolean) (t' := .long) (by decide) (by decide)))) (E0.wr W2) (Or.inl (hw _ (List.mem_of_getElem? (i := 21) rfl))) (hw _ (List.mem_of_getElem? (i := 2) rfl)) (ty := .boolean) (v' := (.int (0 : Int32))) (by decide) rfl (by first | rfl | exact fits_nar_bool _) (g := (mkF m 51 #[.val (.ref o0), .val (.int (1 : Int32))] [(.int (0 : Int32)), (.ref o0)])) rfl rfl (hb hby d3_51)
      have Fw14 := (P_otherWay.other W2 (Or.inr (slot_ne (Or.inl (hw _ (List.mem_of_getElem? (i := 21) rfl))) (Or.inl (hw _ (List.mem_of_getElem? (i := 19) rfl))) (by decide) (t := .boolean) (t' := .long) (by decide) (by decide)))).same W14
      have K15 : Keep h0 h14 [o0] := K3.wr W14 (Or.inl (List.mem_of_getElem? (i := 0) rfl))
      have N14 := Fr.snoc X14 N2 g_o0
      refine Runs.by st14 ?_
      refine Runs.by (fun _ hr => XS.goto X14.here hx rfl (pc0 := 54) (pc' := 108) rfl (hb hby d3_54) (by decide) (by decide) hr) ?_
      refine Runs.by (fun _ hr => XS.iloadN X14.here hx rfl (hb hby d3_108) rfl  hr) ?_
      show Runs p e below _ (T14.setTop (mkF m 109 #[.val (.ref o0), .val (.int (1 : Int32))] [(.int (1 : Int32))]))
      refine Runs.ret X14 hx hrt hlk (Or.inl ⟨rfl, by simp, _, rfl⟩) (by rfl) (hb hby d3_109) (by decide) (by decide) ?_
      rw [e14]
      exact ⟨congrArg (fun z => some (Value.int z)) (Eq.symm (by rw [if_neg hc18, if_pos hc29])), N14, K15, ((E0.wr W2).wr W14), ((P_nanosPerStep.other W2 (Or.inr (slot_ne (Or.inr (hw _ (List.mem_of_getElem? (i := 12) rfl))) (Or.inl (hw _ (List.mem_of_getElem? (i := 19) rfl))) (by decide) (t := (.array .double)) (t' := .long) (by decide) (by decide)))).other W14 (Or.inr (slot_ne (Or.inr (hw _ (List.mem_of_getElem? (i := 12) rfl))) (Or.inl (hw _ (List.mem_of_getElem? (i := 21) rfl))) (by decide) (t := (.array .double)) (t' := .boolean) (by decide) (by decide)))), (Fw2.other W14 (Or.inr (slot_ne (Or.inl (hw _ (List.mem_of_getElem? (i := 19) rfl))) (Or.inl (hw _ (List.mem_of_getElem? (i := 21) rfl))) (by decide) (t := .long) (t' := .boolean) (by decide) (by decide)))), Fw14, ((P_started.other W2 (Or.inr (slot_ne (Or.inl (hw _ (List.mem_of_getElem? (i := 28) rfl))) (Or.inl (hw _ (List.mem_of_getElem? (i := 19) rfl))) (by decide) (t := .long) (t' := .long) (by decide) (by decide)))).other W14 (Or.inr (slot_ne (Or.inl (hw _ (List.mem_of_getElem? (i := 28) rfl))) (Or.inl (hw _ (List.mem_of_getElem? (i := 21) rfl))) (by decide) (t := .long) (t' := .boolean) (by decide) (by decide)))), ((P_shared.other W2 (Or.inr (slot_ne (Or.inl (hw _ (List.mem_of_getElem? (i := 30) rfl))) (Or.inl (hw _ (List.mem_of_getElem? (i := 19) rfl))) (by decide) (t := .boolean) (t' := .long) (by decide) (by decide)))).other W14 (Or.inr (slot_ne (Or.inl (hw _ (List.mem_of_getElem? (i := 30) rfl))) (Or.inl (hw _ (List.mem_of_getElem? (i := 21) rfl))) (by decide) (t := .boolean) (t' := .boolean) (by decide) (by decide)))), ((P_steps.other W2 (Or.inr (slot_ne (Or.inl (hw _ (List.mem_of_getElem? (i := 32) rfl))) (Or.inl (hw _ (List.mem_of_getElem? (i := 19) rfl))) (by decide) (t := .long) (t' := .long) (by decide) (by decide)))).other W14 (Or.inr (slot_ne (Or.inl (hw _ (List.mem_of_getElem? (i := 32) rfl))) (Or.inl (hw _ (List.mem_of_getElem? (i := 21) rfl))) (by decide) (t := .long) (t' := .boolean) (by decide) (by decide)))), ((P_sharedOverUnshared.other W2 (Or.inr (slot_ne (Or.inl (hw _ (List.mem_of_getElem? (i := 47) rfl))) (Or.inl (hw _ (List.mem_of_getElem? (i := 19) rfl))) (by decide) (t := .double) (t' := .long) (by decide) (by decide)))).other W14 (Or.inr (slot_ne (Or.inl (hw _ (List.mem_of_getElem? (i := 47) rfl))) (Or.inl (hw _ (List.mem_of_getElem? (i := 21) rfl))) (by decide) (t := .double) (t' := .boolean) (by decide) (by decide)))), ((VT.other W2 ne_ta_o0).other W14 ne_ta_o0)⟩
    · -- pc 29: not (cmpValue (FP.dcmp x1 FP.dconst0) .l) = (0 : Int32)
      refine Runs.by (fun _ hr => XS.ifYes X10.here hx rfl (pc0 := 29) (pc' := 57) rfl (hb hby d3_29) rfl ((if0 _ _).trans (feq hc29).2) (by decide) (by decide) hr) ?_
      refine Runs.by (fun _ hr => XS.aloadN X10.here hx rfl (hb hby d3_57) rfl rfl hr) ?_
      show Runs p e below _ (T10.setTop (mkF m 58 #[.val (.ref o0), .unset] [(.ref o0)]))
      refine Runs.by (fun _ hr => XS.aloadN X10.here hx rfl (hb hby d3_58) rfl rfl hr) ?_
      show Runs p e below _ (T10.setTop (mkF m 59 #[.val (.ref o0), .unset] [(.ref o0), (.ref o0)]))
      obtain ⟨T16, X16, e16, st16⟩ := getF X10 hx hZ hown (host := "") (Or.inl (hw _ (List.mem_of_getElem? (i := 18) rfl))) Via.refl e10 Fw2 (g := (mkF m 59 #[.val (.ref o0), .unset] [(.ref o0), (.ref o0)])) rfl rfl (hb hby d3_59)
      refine Runs.by st16 ?_
      show Runs p e below _ (T16.setTop (mkF m 62 #[.val (.ref o0), .unset] [(.long (3 : Int64)), (.ref o0)]))
      refine Runs.by (fun _ hr => X16.ldc2J hx hown (mvT hZ (hw _ (List.mem_of_getElem? (i := 49) rfl))) (g := (mkF m 62 #[.val (.ref o0), .unset] [(.long (3 : Int64)), (.ref o0)])) rfl (hb hby d3_62) hr) ?_
      show Runs p e below _ (T16.setTop (mkF m 65 #[.val (.ref o0), .unset] [(.long (64 : Int64)), (.long (3 : Int64)), (.ref o0)]))
      refine Runs.by (fun _ hr => XS.lrem X16.here hx rfl (hb hby d3_65) rfl (by decide) hr) ?_
      refine Runs.by (fun _ hr => XS.lconst X16.here hx rfl (hb hby d3_66) hr) ?_
      refine Runs.by (fun _ hr => XS.lcmp X16.here hx rfl (hb hby d3_67) rfl hr) ?_
      show Runs p e below _ (T16.setTop (mkF m 68 #[.val (.ref o0), .unset] [(.int (lcmpW ((3 : Int64) % (64 : Int64)) (0 : Int64))), (.ref o0)]))
      have hc68 : ¬ ((lcmpW ((3 : Int64) % (64 : Int64)) (0 : Int64)) = (0 : Int32)) := (by decide)
      refine Runs.by (fun _ hr => XS.ifYes X16.here hx rfl (pc0 := 68) (pc' := 75) rfl (hb hby d3_68) rfl ((if0 _ _).trans (feq hc68).2) (by decide) (by decide) hr) ?_
      refine Runs.by (fun _ hr => XS.iconst X16.here hx rfl (hb hby d3_75) hr) ?_
      show Runs p e below _ (T16.setTop (mkF m 76 #[.val (.ref o0), .unset] [(.int (0 : Int32)), (.ref o0)]))
      obtain ⟨T17, h17, X17, e17, W17, st17⟩ := putFN X16 hx hZ hown (hw _ (List.mem_of_getElem? (i := 20) rfl)) Via.refl e16 (P_otherWay.other W2 (Or.inr (slot_ne (Or.inl (hw _ (List.mem_of_getElem? (i := 21) rfl))) (Or.inl (hw _ (List.mem_of_getElem? (i := 19) rfl))) (by decide) (t := .boolean) (t' := .long) (by decide) (by decide)))) (E0.wr W2) (Or.inl (hw _ (List.mem_of_getElem? (i := 21) rfl))) (hw _ (List.mem_of_getElem? (i := 2) rfl)) (ty := .boolean) (v' := (.int (0 : Int32))) (by decide) rfl (by first | rfl | exact fits_nar_bool _) (g := (mkF m 76 #[.val (.ref o0), .unset] [(.int (0 : Int32)), (.ref o0)])) rfl rfl (hb hby d3_76)
      have Fw17 := (P_otherWay.other W2 (Or.inr (slot_ne (Or.inl (hw _ (List.mem_of_getElem? (i := 21) rfl))) (Or.inl (hw _ (List.mem_of_getElem? (i := 19) rfl))) (by decide) (t := .boolean) (t' := .long) (by decide) (by decide)))).same W17
      have K18 : Keep h0 h17 [o0] := K3.wr W17 (Or.inl (List.mem_of_getElem? (i := 0) rfl))
      have N17 := Fr.snoc X17 N2 g_o0
      refine Runs.by st17 ?_
      refine Runs.by (fun _ hr => XS.aloadN X17.here hx rfl (hb hby d3_79) rfl rfl hr) ?_
      show Runs p e below _ (T17.setTop (mkF m 80 #[.val (.ref o0), .unset] [(.ref o0)]))
      obtain ⟨T19, X19, e19, st19⟩ := getF X17 hx hZ hown (host := "") (Or.inl (hw _ (List.mem_of_getElem? (i := 46) rfl))) Via.refl e17 ((P_sharedOverUnshared.other W2 (Or.inr (slot_ne (Or.inl (hw _ (List.mem_of_getElem? (i := 47) rfl))) (Or.inl (hw _ (List.mem_of_getElem? (i := 19) rfl))) (by decide) (t := .double) (t' := .long) (by decide) (by decide)))).other W17 (Or.inr (slot_ne (Or.inl (hw _ (List.mem_of_getElem? (i := 47) rfl))) (Or.inl (hw _ (List.mem_of_getElem? (i := 21) rfl))) (by decide) (t := .double) (t' := .boolean) (by decide) (by decide)))) (g := (mkF m 80 #[.val (.ref o0), .unset] [(.ref o0)])) rfl rfl (hb hby d3_80)
      refine Runs.by st19 ?_
      show Runs p e below _ (T19.setTop (mkF m 83 #[.val (.ref o0), .unset] [(.double qv)]))
      refine Runs.by (fun t hr => X19.ldc2DoubleC hx hown (mvT hZ (hw _ (List.mem_of_getElem? (i := 50) rfl))) (g := (mkF m 83 #[.val (.ref o0), .unset] [(.double qv)])) rfl (hb hby d3_83) t hr) ?_
      show Runs p e below _ (T19.setTop (mkF m 86 #[.val (.ref o0), .unset] [(.double (4606281698874543309 : UInt64)), (.double qv)]))
      refine Runs.by (fun _ hr => XS.dcmpS X19.here hx rfl (hb hby d3_86) rfl rfl hr) ?_
      by_cases hc87 : (0 : Int32) < (cmpValue (FP.dcmp qv (4606281698874543309 : UInt64)) .g)
      · -- pc 87: (0 : Int32) < (cmpValue (FP.dcmp qv (4606281698874543309 : UInt64)) .g)
        refine Runs.by (fun _ hr => XS.ifYes X19.here hx rfl (pc0 := 87) (pc' := 94) rfl (hb hby d3_87) rfl ((if0 _ _).trans (tlt hc87).2.2.1) (by decide) (by decide) hr) ?_
        refine Runs.by (fun _ hr => XS.iconst X19.here hx rfl (hb hby d3_94) hr) ?_
        show Runs p e below _ (T19.setTop (mkF m 95 #[.val (.ref o0), .unset] [(.int (0 : Int32))]))
        refine Runs.by (fun _ hr => XS.aloadN X19.here hx rfl (hb hby d3_95) rfl rfl hr) ?_
        show Runs p e below _ (T19.setTop (mkF m 96 #[.val (.ref o0), .unset] [(.ref o0), (.int (0 : Int32))]))
        obtain ⟨T20, X20, e20, st20⟩ := getF X19 hx hZ hown (host := "") (Or.inl (hw _ (List.mem_of_getElem? (i := 20) rfl))) Via.refl e19 Fw17 (g := (mkF m 96 #[.val (.ref o0), .unset] [(.ref o0), (.int (0 : Int32))])) rfl rfl (hb hby d3_96)
        refine Runs.by st20 ?_
        have hc99 : (0 : Int32) = (0 : Int32) := (by decide)
        refine Runs.by (fun _ hr => XS.icmpYes X20.here hx rfl (pc0 := 99) (pc' := 106) rfl (hb hby d3_99) rfl (teq hc99).1 (by decide) (by decide) hr) ?_
        refine Runs.by (fun _ hr => XS.iconst X20.here hx rfl (hb hby d3_106) hr) ?_
        show Runs p e below _ (T20.setTop (mkF m 107 #[.val (.ref o0), .unset] [(.int (0 : Int32))]))
        refine Runs.by (fun _ hr => XS.istoreN X20.here hx rfl (hb hby d3_107) rfl (l' := #[.val (.ref o0), .val (.int (0 : Int32))]) rfl hr) ?_
        refine Runs.by (fun _ hr => XS.iloadN X20.here hx rfl (hb hby d3_108) rfl  hr) ?_
        show Runs p e below _ (T20.setTop (mkF m 109 #[.val (.ref o0), .val (.int (0 : Int32))] [(.int (0 : Int32))]))
        refine Runs.ret X20 hx hrt hlk (Or.inl ⟨rfl, by simp, _, rfl⟩) (by rfl) (hb hby d3_109) (by decide) (by decide) ?_
        rw [e20]
        exact ⟨congrArg (fun z => some (Value.int z)) (Eq.symm (by rw [if_neg hc18, if_neg hc29, if_pos hc87])), N17, K18, ((E0.wr W2).wr W17), ((P_nanosPerStep.other W2 (Or.inr (slot_ne (Or.inr (hw _ (List.mem_of_getElem? (i := 12) rfl))) (Or.inl (hw _ (List.mem_of_getElem? (i := 19) rfl))) (by decide) (t := (.array .double)) (t' := .long) (by decide) (by decide)))).other W17 (Or.inr (slot_ne (Or.inr (hw _ (List.mem_of_getElem? (i := 12) rfl))) (Or.inl (hw _ (List.mem_of_getElem? (i := 21) rfl))) (by decide) (t := (.array .double)) (t' := .boolean) (by decide) (by decide)))), (Fw2.other W17 (Or.inr (slot_ne (Or.inl (hw _ (List.mem_of_getElem? (i := 19) rfl))) (Or.inl (hw _ (List.mem_of_getElem? (i := 21) rfl))) (by decide) (t := .long) (t' := .boolean) (by decide) (by decide)))), Fw17, ((P_started.other W2 (Or.inr (slot_ne (Or.inl (hw _ (List.mem_of_getElem? (i := 28) rfl))) (Or.inl (hw _ (List.mem_of_getElem? (i := 19) rfl))) (by decide) (t := .long) (t' := .long) (by decide) (by decide)))).other W17 (Or.inr (slot_ne (Or.inl (hw _ (List.mem_of_getElem? (i := 28) rfl))) (Or.inl (hw _ (List.mem_of_getElem? (i := 21) rfl))) (by decide) (t := .long) (t' := .boolean) (by decide) (by decide)))), ((P_shared.other W2 (Or.inr (slot_ne (Or.inl (hw _ (List.mem_of_getElem? (i := 30) rfl))) (Or.inl (hw _ (List.mem_of_getElem? (i := 19) rfl))) (by decide) (t := .boolean) (t' := .long) (by decide) (by decide)))).other W17 (Or.inr (slot_ne (Or.inl (hw _ (List.mem_of_getElem? (i := 30) rfl))) (Or.inl (hw _ (List.mem_of_getElem? (i := 21) rfl))) (by decide) (t := .boolean) (t' := .boolean) (by decide) (by decide)))), ((P_steps.other W2 (Or.inr (slot_ne (Or.inl (hw _ (List.mem_of_getElem? (i := 32) rfl))) (Or.inl (hw _ (List.mem_of_getElem? (i := 19) rfl))) (by decide) (t := .long) (t' := .long) (by decide) (by decide)))).other W17 (Or.inr (slot_ne (Or.inl (hw _ (List.mem_of_getElem? (i := 32) rfl))) (Or.inl (hw _ (List.mem_of_getElem? (i := 21) rfl))) (by decide) (t := .long) (t' := .boolean) (by decide) (by decide)))), ((P_sharedOverUnshared.other W2 (Or.inr (slot_ne (Or.inl (hw _ (List.mem_of_getElem? (i := 47) rfl))) (Or.inl (hw _ (List.mem_of_getElem? (i := 19) rfl))) (by decide) (t := .double) (t' := .long) (by decide) (by decide)))).other W17 (Or.inr (slot_ne (Or.inl (hw _ (List.mem_of_getElem? (i := 47) rfl))) (Or.inl (hw _ (List.mem_of_getElem? (i := 21) rfl))) (by decide) (t := .double) (t' := .boolean) (by decide) (by decide)))), ((VT.other W2 ne_ta_o0).other W17 ne_ta_o0)⟩
      · -- pc 87: not (0 : Int32) < (cmpValue (FP.dcmp qv (4606281698874543309 : UInt64)) .g)
        refine Runs.by (fun _ hr => XS.ifNo X19.here hx rfl (hb hby d3_87) rfl ((if0 _ _).trans (flt hc87).2.2.1) hr) ?_
        refine Runs.by (fun _ hr => XS.iconst X19.here hx rfl (hb hby d3_90) hr) ?_
        show Runs p e below _ (T19.setTop (mkF m 91 #[.val (.ref o0), .unset] [(.int (1 : Int32))]))
        refine Runs.by (fun _ hr => XS.goto X19.here hx rfl (pc0 := 91) (pc' := 95) rfl (hb hby d3_91) (by decide) (by decide) hr) ?_
        refine Runs.by (fun _ hr => XS.aloadN X19.here hx rfl (hb hby d3_95) rfl rfl hr) ?_
        show Runs p e below _ (T19.setTop (mkF m 96 #[.val (.ref o0), .unset] [(.ref o0), (.int (1 : Int32))]))
        obtain ⟨T21, X21, e21, st21⟩ := getF X19 hx hZ hown (host := "") (Or.inl (hw _ (List.mem_of_getElem? (i := 20) rfl))) Via.refl e19 Fw17 (g := (mkF m 96 #[.val (.ref o0), .unset] [(.ref o0), (.int (1 : Int32))])) rfl rfl (hb hby d3_96)
        refine Runs.by st21 ?_
        have hc99 : ¬ ((1 : Int32) = (0 : Int32)) := (by decide)
        refine Runs.by (fun _ hr => XS.icmpNo X21.here hx rfl (hb hby d3_99) rfl (feq hc99).1 hr) ?_
        refine Runs.by (fun _ hr => XS.iconst X21.here hx rfl (hb hby d3_102) hr) ?_
        show Runs p e below _ (T21.setTop (mkF m 103 #[.val (.ref o0), .unset] [(.int (1 : Int32))]))
        refine Runs.by (fun _ hr => XS.goto X21.here hx rfl (pc0 := 103) (pc' := 107) rfl (hb hby d3_103) (by decide) (by decide) hr) ?_
        refine Runs.by (fun _ hr => XS.istoreN X21.here hx rfl (hb hby d3_107) rfl (l' := #[.val (.ref o0), .val (.int (1 : Int32))]) rfl hr) ?_
        refine Runs.by (fun _ hr => XS.iloadN X21.here hx rfl (hb hby d3_108) rfl  hr) ?_
        show Runs p e below _ (T21.setTop (mkF m 109 #[.val (.ref o0), .val (.int (1 : Int32))] [(.int (1 : Int32))]))
        refine Runs.ret X21 hx hrt hlk (Or.inl ⟨rfl, by simp, _, rfl⟩) (by rfl) (hb hby d3_109) (by decide) (by decide) ?_
        rw [e21]
        exact ⟨congrArg (fun z => some (Value.int z)) (Eq.symm (by rw [if_neg hc18, if_neg hc29, if_neg hc87])), N17, K18, ((E0.wr W2).wr W17), ((P_nanosPerStep.other W2 (Or.inr (slot_ne (Or.inr (hw _ (List.mem_of_getElem? (i := 12) rfl))) (Or.inl (hw _ (List.mem_of_getElem? (i := 19) rfl))) (by decide) (t := (.array .double)) (t' := .long) (by decide) (by decide)))).other W17 (Or.inr (slot_ne (Or.inr (hw _ (List.mem_of_getElem? (i := 12) rfl))) (Or.inl (hw _ (List.mem_of_getElem? (i := 21) rfl))) (by decide) (t := (.array .double)) (t' := .boolean) (by decide) (by decide)))), (Fw2.other W17 (Or.inr (slot_ne (Or.inl (hw _ (List.mem_of_getElem? (i := 19) rfl))) (Or.inl (hw _ (List.mem_of_getElem? (i := 21) rfl))) (by decide) (t := .long) (t' := .boolean) (by decide) (by decide)))), Fw17, ((P_started.other W2 (Or.inr (slot_ne (Or.inl (hw _ (List.mem_of_getElem? (i := 28) rfl))) (Or.inl (hw _ (List.mem_of_getElem? (i := 19) rfl))) (by decide) (t := .long) (t' := .long) (by decide) (by decide)))).other W17 (Or.inr (slot_ne (Or.inl (hw _ (List.mem_of_getElem? (i := 28) rfl))) (Or.inl (hw _ (List.mem_of_getElem? (i := 21) rfl))) (by decide) (t := .long) (t' := .boolean) (by decide) (by decide)))), ((P_shared.other W2 (Or.inr (slot_ne (Or.inl (hw _ (List.mem_of_getElem? (i := 30) rfl))) (Or.inl (hw _ (List.mem_of_getElem? (i := 19) rfl))) (by decide) (t := .boolean) (t' := .long) (by decide) (by decide)))).other W17 (Or.inr (slot_ne (Or.inl (hw _ (List.mem_of_getElem? (i := 30) rfl))) (Or.inl (hw _ (List.mem_of_getElem? (i := 21) rfl))) (by decide) (t := .boolean) (t' := .boolean) (by decide) (by decide)))), ((P_steps.other W2 (Or.inr (slot_ne (Or.inl (hw _ (List.mem_of_getElem? (i := 32) rfl))) (Or.inl (hw _ (List.mem_of_getElem? (i := 19) rfl))) (by decide) (t := .long) (t' := .long) (by decide) (by decide)))).other W17 (Or.inr (slot_ne (Or.inl (hw _ (List.mem_of_getElem? (i := 32) rfl))) (Or.inl (hw _ (List.mem_of_getElem? (i := 21) rfl))) (by decide) (t := .long) (t' := .boolean) (by decide) (by decide)))), ((P_sharedOverUnshared.other W2 (Or.inr (slot_ne (Or.inl (hw _ (List.mem_of_getElem? (i := 47) rfl))) (Or.inl (hw _ (List.mem_of_getElem? (i := 19) rfl))) (by decide) (t := .double) (t' := .long) (by decide) (by decide)))).other W17 (Or.inr (slot_ne (Or.inl (hw _ (List.mem_of_getElem? (i := 47) rfl))) (Or.inl (hw _ (List.mem_of_getElem? (i := 21) rfl))) (by decide) (t := .double) (t' := .boolean) (by decide) (by decide)))), ((VT.other W2 ne_ta_o0).other W17 ne_ta_o0)⟩
theorem d4_0 : decode prog_268_method_3_code 0 = .ok (.aload_n 0, 1) := by decide +kernel
theorem d4_1 : decode prog_268_method_3_code 1 = .ok (.lload_n 1, 1) := by decide +kernel
theorem d4_2 : decode prog_268_method_3_code 2 = .ok (.putfield 29, 3) := by decide +kernel
theorem d4_5 : decode prog_268_method_3_code 5 = .ok (.aload_n 0, 1) := by decide +kernel
theorem d4_6 : decode prog_268_method_3_code 6 = .ok (.iload_n 3, 1) := by decide +kernel
theorem d4_7 : decode prog_268_method_3_code 7 = .ok (.putfield 32, 3) := by decide +kernel
theorem d4_10 : decode prog_268_method_3_code 10 = .ok (.aload_n 0, 1) := by decide +kernel
theorem d4_11 : decode prog_268_method_3_code 11 = .ok (.lconst 0, 1) := by decide +kernel
theorem d4_12 : decode prog_268_method_3_code 12 = .ok (.putfield 35, 3) := by decide +kernel
theorem d4_15 : decode prog_268_method_3_code 15 = .ok (.return_, 1) := by decide +kernel
theorem ef_4_3 (m : MethodId) (o0 : Addr) (q1 : Int64) : entryFrame m #[(.ref o0), (.long q1), (.int (0 : Int32))] 4 = mkF m 0 #[.val (.ref o0), .val (.long q1), .second, .val (.int (0 : Int32))] [] := by first | (simp [entryFrame, mkF, argsToLocals, Value.category]; done) | rfl
def Q_rm4_0 (Z : State) (o0 : Addr) (q1 : Int64) (ta : Addr) (kt : ClassId) (x0 x1 qv : UInt64) (rr st sp : Int64) (sh0 : Int32) (h0 : Heap) (n0 : Nat) (v : Option Value) (h : Heap) (L : List Loc) : Prop := v = none ∧ Fr n0 L ∧ Keep h0 h [o0] ∧ Exa Z h o0 "com/example/dialtone/dialtone/workload/Workers$Sharing" ∧ Fld Z h o0 "com/example/dialtone/dialtone/workload/Workers$Sharing" "nanosPerStep" "[D" (.ref ta) ∧ Fld Z h o0 "com/example/dialtone/dialtone/workload/Workers$Sharing" "rounds" "J" (.long rr) ∧ Fld Z h o0 "com/example/dialtone/dialtone/workload/Workers$Sharing" "otherWay" "Z" (.int (0 : Int32)) ∧ Fld Z h o0 "com/example/dialtone/dialtone/workload/Workers$Sharing" "started" "J" (.long q1) ∧ Fld Z h o0 "com/example/dialtone/dialtone/workload/Workers$Sharing" "shared" "Z" (.int (0 : Int32)) ∧ Fld Z h o0 "com/example/dialtone/dialtone/workload/Workers$Sharing" "steps" "J" (.long (0 : Int64)) ∧ Fld Z h o0 "com/example/dialtone/dialtone/workload/Workers$Sharing" "sharedOverUnshared" "D" (.double qv) ∧ Arv Z h ta kt .double (2 : Int32) [(.double x0), (.double x1)] (.double (0 : UInt64))
set_option maxRecDepth 65536 in
set_option maxHeartbeats 40000000 in
theorem rm4_0 (l : Launch) (Z : State) (a0 : Array Value) (hw : ∀ d ∈ tables_1, d.before a0 Z = true) (ws : List Jvm.Cond) (o0 : Addr) (q1 : Int64) (ta : Addr) (kt : ClassId) (x0 x1 qv : UInt64) (rr st sp : Int64) (sh0 : Int32) (h0 : Heap) (n0 : Nat) (Z0 : n0 ≤ h0.size) (E0 : Exa Z h0 o0 "com/example/dialtone/dialtone/workload/Workers$Sharing") (g_o0 : n0 ≤ o0) (g_ta : n0 ≤ ta) (ne_ta_o0 : ta ≠ o0) (P_nanosPerStep : Fld Z h0 o0 "com/example/dialtone/dialtone/workload/Workers$Sharing" "nanosPerStep" "[D" (.ref ta)) (P_rounds : Fld Z h0 o0 "com/example/dialtone/dialtone/workload/Workers$Sharing" "rounds" "J" (.long rr)) (P_otherWay : Fld Z h0 o0 "com/example/dialtone/dialtone/workload/Workers$Sharing" "otherWay" "Z" (.int (0 : Int32))) (P_started : Fld Z h0 o0 "com/example/dialtone/dialtone/workload/Workers$Sharing" "started" "J" (.long st)) (P_shared : Fld Z h0 o0 "com/example/dialtone/dialtone/workload/Workers$Sharing" "shared" "Z" (.int sh0)) (P_steps : Fld Z h0 o0 "com/example/dialtone/dialtone/workload/Workers$Sharing" "steps" "J" (.long sp)) (P_sharedOverUnshared : Fld Z h0 o0 "com/example/dialtone/dialtone/workload/Workers$Sharing" "sharedOverUnshared" "D" (.double qv)) (VT : Arv Z h0 ta kt .double (2 : Int32) [(.double x0), (.double x1)] (.double (0 : UInt64))) :
    MetFree l (⟨"com/example/dialtone/dialtone/workload/Workers$Sharing", "started", "(JZ)V"⟩ : MethodName) (head1 (Jvm.Cond.code (⟨"com/example/dialtone/dialtone/workload/Workers$Sharing", "started", "(JZ)V"⟩ : MethodName) prog_268_method_3_code 4 none :: ws) ({ frames := 0, cells := 0, slots := 0, locals := 0 } : Room)) (fun a U => a = #[(.ref o0), (.long q1), (.int (0 : Int32))] ∧ Z.Warmed39 U.vm ∧ U.heap = h0) (fun _ _ _ _ _ => True) (fun _ U o U' => ∃ v L, o = .returned v ∧ Q_rm4_0 Z o0 q1 ta kt x0 x1 qv rr st sp sh0 h0 n0 v U'.heap L ∧ FrameEnd U o U' L ({ frames := 0, cells := 0, slots := 0, locals := 0 } : Room).cells ({ frames := 0, cells := 0, slots := 0, locals := 0 } : Room).slots) := by
  refine MetFree.of_bodySF (plainFor_of_name pn_com_example_dialtone_dialtone_workload_Workers_Sharing) hisR ?_
  intro p e s m args below meth c s₁ Bd hml0 hP hK
  obtain ⟨rfl, hZ, hh⟩ := hP
  have hx := Bd.exec
  have hby := Bd.bytes
  have hlk := BodyLoose.notSynchronized Bd
  have hrt := Bd.returns
  have hml : c.maxLocals = 4 := hml0
  have hown : s.vm.findClass "com/example/dialtone/dialtone/workload/Workers$Sharing" = some m.cls := findClass_of_methodNamed Bd.named
  have hnm := (name_of_methodNamed Bd.named Bd.method).1
  have X0 : Stand p l e ({ frames := 0, cells := 0, slots := 0, locals := 0 } : Room) s m #[(.ref o0), (.long q1), (.int (0 : Int32))] below meth c s₁ [] 0 0 := Stand.of_body Bd
  have e0 : s₁.heap = h0 := by rw [← hh, Bd.state]; rfl
  have N0 := Fr.nil n0
  have K0 : Keep h0 h0 [o0] := Keep.refl h0 _
  show Runs p e below (QE s (Q_rm4_0 Z o0 q1 ta kt x0 x1 qv rr st sp sh0 h0 n0) ({ frames := 0, cells := 0, slots := 0, locals := 0 } : Room).cells ({ frames := 0, cells := 0, slots := 0, locals := 0 } : Room).slots) (s₁.setTop (entryFrame m #[(.ref o0), (.long q1), (.int (0 : Int32))] 4))
  rw [ef_4_3 m o0 q1]
  refine Runs.by (fun _ hr => XS.aloadN X0.here hx rfl (hb hby d4_0) rfl rfl hr) ?_
  refine Runs.by (fun _ hr => XS.lloadN X0.here hx rfl (hb hby d4_1) rfl  hr) ?_
  show Runs p e below _ (s₁.setTop (mkF m 2 #[.val (.ref o0), .val (.long q1), .second, .val (.int (0 : Int32))] [(.long q1), (.ref o0)]))
  obtain ⟨T1, h1, X1, e1, W1, st1⟩ := putF X0 hx hZ hown (host := "") (Or.inl (hw _ (List.mem_of_getElem? (i := 27) rfl))) Via.refl e0 P_started E0 (Or.inl (hw _ (List.mem_of_getElem? (i := 28) rfl))) (hw _ (List.mem_of_getElem? (i := 2) rfl)) (ty := .long) (by decide) rfl rfl (g := (mkF m 2 #[.val (.ref o0), .val (.long q1), .second, .val (.int (0 : Int32))] [(.long q1), (.ref o0)])) rfl rfl (hb hby d4_2)
  have Fw1 := P_started.same W1
  have K2 : Keep h0 h1 [o0] := K0.wr W1 (Or.inl (List.mem_of_getElem? (i := 0) rfl))
  have N1 := Fr.snoc X1 N0 g_o0
  refine Runs.by st1 ?_
  refine Runs.by (fun _ hr => XS.aloadN X1.here hx rfl (hb hby d4_5) rfl rfl hr) ?_
  refine Runs.by (fun _ hr => XS.iloadN X1.here hx rfl (hb hby d4_6) rfl  hr) ?_
  show Runs p e below _ (T1.setTop (mkF m 7 #[.val (.ref o0), .val (.long q1), .second, .val (.int (0 : Int32))] [(.int (0 : Int32)), (.ref o0)]))
  obtain ⟨T3, h3, X3, e3, W3, st3⟩ := putFN X1 hx hZ hown (hw _ (List.mem_of_getElem? (i := 29) rfl)) Via.refl e1 (P_shared.other W1 (Or.inr (slot_ne (Or.inl (hw _ (List.mem_of_getElem? (i := 30) rfl))) (Or.inl (hw _ (List.mem_of_getElem? (i := 28) rfl))) (by decide) (t := .boolean) (t' := .long) (by decide) (by decide)))) (E0.wr W1) (Or.inl (hw _ (List.mem_of_getElem? (i := 30) rfl))) (hw _ (List.mem_of_getElem? (i := 2) rfl)) (ty := .boolean) (v' := (.int (0 : Int32))) (by decide) rfl (by first | rfl | exact fits_nar_bool _) (g := (mkF m 7 #[.val (.ref o0), .val (.long q1), .second, .val (.int (0 : Int32))] [(.int (0 : Int32)), (.ref o0)])) rfl rfl (hb hby d4_7)
  have Fw3 := (P_shared.other W1 (Or.inr (slot_ne (Or.inl (hw _ (List.mem_of_getElem? (i := 30) rfl))) (Or.inl (hw _ (List.mem_of_getElem? (i := 28) rfl))) (by decide) (t := .boolean) (t' := .long) (by decide) (by decide)))).same W3
  have K4 : Keep h0 h3 [o0] := K2.wr W3 (Or.inl (List.mem_of_getElem? (i := 0) rfl))
  have N3 := Fr.snoc X3 N1 g_o0
  refine Runs.by st3 ?_
  refine Runs.by (fun _ hr => XS.aloadN X3.here hx rfl (hb hby d4_10) rfl rfl hr) ?_
  refine Runs.by (fun _ hr => XS.lconst X3.here hx rfl (hb hby d4_11) hr) ?_
  show Runs p e below _ (T3.setTop (mkF m 12 #[.val (.ref o0), .val (.long q1), .second, .val (.int (0 : Int32))] [(.long (0 : Int64)), (.ref o0)]))
  obtain ⟨T5, h5, X5, e5, W5, st5⟩ := putF X3 hx hZ hown (host := "") (Or.inl (hw _ (List.mem_of_getElem? (i := 31) rfl))) Via.refl e3 ((P_steps.other W1 (Or.inr (slot_ne (Or.inl (hw _ (List.mem_of_getElem? (i := 32) rfl))) (Or.inl (hw _ (List.mem_of_getElem? (i := 28) rfl))) (by decide) (t := .long) (t' := .long) (by decide) (by decide)))).other W3 (Or.inr (slot_ne (Or.inl (hw _ (List.mem_of_getElem? (i := 32) rfl))) (Or.inl (hw _ (List.mem_of_getElem? (i := 30) rfl))) (by decide) (t := .long) (t' := .boolean) (by decide) (by decide)))) ((E0.wr W1).wr W3) (Or.inl (hw _ (List.mem_of_getElem? (i := 32) rfl))) (hw _ (List.mem_of_getElem? (i := 2) rfl)) (ty := .long) (by decide) rfl rfl (g := (mkF m 12 #[.val (.ref o0), .val (.long q1), .second, .val (.int (0 : Int32))] [(.long (0 : Int64)), (.ref o0)])) rfl rfl (hb hby d4_12)
  have Fw5 := ((P_steps.other W1 (Or.inr (slot_ne (Or.inl (hw _ (List.mem_of_getElem? (i := 32) rfl))) (Or.inl (hw _ (List.mem_of_getElem? (i := 28) rfl))) (by decide) (t := .long) (t' := .long) (by decide) (by decide)))).other W3 (Or.inr (slot_ne (Or.inl (hw _ (List.mem_of_getElem? (i := 32) rfl))) (Or.inl (hw _ (List.mem_of_getElem? (i := 30) rfl))) (by decide) (t := .long) (t' := .boolean) (by decide) (by decide)))).same W5
  have K6 : Keep h0 h5 [o0] := K4.wr W5 (Or.inl (List.mem_of_getElem? (i := 0) rfl))
  have N5 := Fr.snoc X5 N3 g_o0
  refine Runs.by st5 ?_
  show Runs p e below _ (T5.setTop (mkF m 15 #[.val (.ref o0), .val (.long q1), .second, .val (.int (0 : Int32))] []))
  refine Runs.retV X5 hx hrt hlk (hb hby d4_15) (by decide) (by decide) ?_
  rw [e5]
  exact ⟨rfl, N5, K6, (((E0.wr W1).wr W3).wr W5), (((P_nanosPerStep.other W1 (Or.inr (slot_ne (Or.inr (hw _ (List.mem_of_getElem? (i := 12) rfl))) (Or.inl (hw _ (List.mem_of_getElem? (i := 28) rfl))) (by decide) (t := (.array .double)) (t' := .long) (by decide) (by decide)))).other W3 (Or.inr (slot_ne (Or.inr (hw _ (List.mem_of_getElem? (i := 12) rfl))) (Or.inl (hw _ (List.mem_of_getElem? (i := 30) rfl))) (by decide) (t := (.array .double)) (t' := .boolean) (by decide) (by decide)))).other W5 (Or.inr (slot_ne (Or.inr (hw _ (List.mem_of_getElem? (i := 12) rfl))) (Or.inl (hw _ (List.mem_of_getElem? (i := 32) rfl))) (by decide) (t := (.array .double)) (t' := .long) (by decide) (by decide)))), (((P_rounds.other W1 (Or.inr (slot_ne (Or.inl (hw _ (List.mem_of_getElem? (i := 19) rfl))) (Or.inl (hw _ (List.mem_of_getElem? (i := 28) rfl))) (by decide) (t := .long) (t' := .long) (by decide) (by decide)))).other W3 (Or.inr (slot_ne (Or.inl (hw _ (List.mem_of_getElem? (i := 19) rfl))) (Or.inl (hw _ (List.mem_of_getElem? (i := 30) rfl))) (by decide) (t := .long) (t' := .boolean) (by decide) (by decide)))).other W5 (Or.inr (slot_ne (Or.inl (hw _ (List.mem_of_getElem? (i := 19) rfl))) (Or.inl (hw _ (List.mem_of_getElem? (i := 32) rfl))) (by decide) (t := .long) (t' := .long) (by decide) (by decide)))), (((P_otherWay.other W1 (Or.inr (slot_ne (Or.inl (hw _ (List.mem_of_getElem? (i := 21) rfl))) (Or.inl (hw _ (List.mem_of_getElem? (i := 28) rfl))) (by decide) (t := .boolean) (t' := .long) (by decide) (by decide)))).other W3 (Or.inr (slot_ne (Or.inl (hw _ (List.mem_of_getElem? (i := 21) rfl))) (Or.inl (hw _ (List.mem_of_getElem? (i := 30) rfl))) (by decide) (t := .boolean) (t' := .boolean) (by decide) (by decide)))).other W5 (Or.inr (slot_ne (Or.inl (hw _ (List.mem_of_getElem? (i := 21) rfl))) (Or.inl (hw _ (List.mem_of_getElem? (i := 32) rfl))) (by decide) (t := .boolean) (t' := .long) (by decide) (by decide)))), ((Fw1.other W3 (Or.inr (slot_ne (Or.inl (hw _ (List.mem_of_getElem? (i := 28) rfl))) (Or.inl (hw _ (List.mem_of_getElem? (i := 30) rfl))) (by decide) (t := .long) (t' := .boolean) (by decide) (by decide)))).other W5 (Or.inr (slot_ne (Or.inl (hw _ (List.mem_of_getElem? (i := 28) rfl))) (Or.inl (hw _ (List.mem_of_getElem? (i := 32) rfl))) (by decide) (t := .long) (t' := .long) (by decide) (by decide)))), (Fw3.other W5 (Or.inr (slot_ne (Or.inl (hw _ (List.mem_of_getElem? (i := 30) rfl))) (Or.inl (hw _ (List.mem_of_getElem? (i := 32) rfl))) (by decide) (t := .boolean) (t' := .long) (by decide) (by decide)))), Fw5, (((P_sharedOverUnshared.other W1 (Or.inr (slot_ne (Or.inl (hw _ (List.mem_of_getElem? (i := 47) rfl))) (Or.inl (hw _ (List.mem_of_getElem? (i := 28) rfl))) (by decide) (t := .double) (t' := .long) (by decide) (by decide)))).other W3 (Or.inr (slot_ne (Or.inl (hw _ (List.mem_of_getElem? (i := 47) rfl))) (Or.inl (hw _ (List.mem_of_getElem? (i := 30) rfl))) (by decide) (t := .double) (t' := .boolean) (by decide) (by decide)))).other W5 (Or.inr (slot_ne (Or.inl (hw _ (List.mem_of_getElem? (i := 47) rfl))) (Or.inl (hw _ (List.mem_of_getElem? (i := 32) rfl))) (by decide) (t := .double) (t' := .long) (by decide) (by decide)))), (((VT.other W1 ne_ta_o0).other W3 ne_ta_o0).other W5 ne_ta_o0)⟩
theorem ef_4_4 (m : MethodId) (o0 : Addr) (q1 : Int64) : entryFrame m #[(.ref o0), (.long q1), (.int (1 : Int32))] 4 = mkF m 0 #[.val (.ref o0), .val (.long q1), .second, .val (.int (1 : Int32))] [] := by first | (simp [entryFrame, mkF, argsToLocals, Value.category]; done) | rfl
def Q_rm4_1 (Z : State) (o0 : Addr) (q1 : Int64) (ta : Addr) (kt : ClassId) (x0 x1 qv : UInt64) (rr st sp : Int64) (sh0 : Int32) (h0 : Heap) (n0 : Nat) (v : Option Value) (h : Heap) (L : List Loc) : Prop := v = none ∧ Fr n0 L ∧ Keep h0 h [o0] ∧ Exa Z h o0 "com/example/dialtone/dialtone/workload/Workers$Sharing" ∧ Fld Z h o0 "com/example/dialtone/dialtone/workload/Workers$Sharing" "nanosPerStep" "[D" (.ref ta) ∧ Fld Z h o0 "com/example/dialtone/dialtone/workload/Workers$Sharing" "rounds" "J" (.long rr) ∧ Fld Z h o0 "com/example/dialtone/dialtone/workload/Workers$Sharing" "otherWay" "Z" (.int (0 : Int32)) ∧ Fld Z h o0 "com/example/dialtone/dialtone/workload/Workers$Sharing" "started" "J" (.long q1) ∧ Fld Z h o0 "com/example/dialtone/dialtone/workload/Workers$Sharing" "shared" "Z" (.int (1 : Int32)) ∧ Fld Z h o0 "com/example/dialtone/dialtone/workload/Workers$Sharing" "steps" "J" (.long (0 : Int64)) ∧ Fld Z h o0 "com/example/dialtone/dialtone/workload/Workers$Sharing" "sharedOverUnshared" "D" (.double qv) ∧ Arv Z h ta kt .double (2 : Int32) [(.double x0), (.double x1)] (.double (0 : UInt64))
set_option maxRecDepth 65536 in
set_option maxHeartbeats 40000000 in
theorem rm4_1 (l : Launch) (Z : State) (a0 : Array Value) (hw : ∀ d ∈ tables_1, d.before a0 Z = true) (ws : List Jvm.Cond) (o0 : Addr) (q1 : Int64) (ta : Addr) (kt : ClassId) (x0 x1 qv : UInt64) (rr st sp : Int64) (sh0 : Int32) (h0 : Heap) (n0 : Nat) (Z0 : n0 ≤ h0.size) (E0 : Exa Z h0 o0 "com/example/dialtone/dialtone/workload/Workers$Sharing") (g_o0 : n0 ≤ o0) (g_ta : n0 ≤ ta) (ne_ta_o0 : ta ≠ o0) (P_nanosPerStep : Fld Z h0 o0 "com/example/dialtone/dialtone/workload/Workers$Sharing" "nanosPerStep" "[D" (.ref ta)) (P_rounds : Fld Z h0 o0 "com/example/dialtone/dialtone/workload/Workers$Sharing" "rounds" "J" (.long rr)) (P_otherWay : Fld Z h0 o0 "com/example/dialtone/dialtone/workload/Workers$Sharing" "otherWay" "Z" (.int (0 : Int32))) (P_started : Fld Z h0 o0 "com/example/dialtone/dialtone/workload/Workers$Sharing" "started" "J" (.long st)) (P_shared : Fld Z h0 o0 "com/example/dialtone/dialtone/workload/Workers$Sharing" "shared" "Z" (.int sh0)) (P_steps : Fld Z h0 o0 "com/example/dialtone/dialtone/workload/Workers$Sharing" "steps" "J" (.long sp)) (P_sharedOverUnshared : Fld Z h0 o0 "com/example/dialtone/dialtone/workload/Workers$Sharing" "sharedOverUnshared" "D" (.double qv)) (VT : Arv Z h0 ta kt .double (2 : Int32) [(.double x0), (.double x1)] (.double (0 : UInt64))) :
    MetFree l (⟨"com/example/dialtone/dialtone/workload/Workers$Sharing", "started", "(JZ)V"⟩ : MethodName) (head1 (Jvm.Cond.code (⟨"com/example/dialtone/dialtone/workload/Workers$Sharing", "started", "(JZ)V"⟩ : MethodName) prog_268_method_3_code 4 none :: ws) ({ frames := 0, cells := 0, slots := 0, locals := 0 } : Room)) (fun a U => a = #[(.ref o0), (.long q1), (.int (1 : Int32))] ∧ Z.Warmed39 U.vm ∧ U.heap = h0) (fun _ _ _ _ _ => True) (fun _ U o U' => ∃ v L, o = .returned v ∧ Q_rm4_1 Z o0 q1 ta kt x0 x1 qv rr st sp sh0 h0 n0 v U'.heap L ∧ FrameEnd U o U' L ({ frames := 0, cells := 0, slots := 0, locals := 0 } : Room).cells ({ frames := 0, cells := 0, slots := 0, locals := 0 } : Room).slots) := by
  refine MetFree.of_bodySF (plainFor_of_name pn_com_example_dialtone_dialtone_workload_Workers_Sharing) hisR ?_
  intro p e s m args below meth c s₁ Bd hml0 hP hK
  obtain ⟨rfl, hZ, hh⟩ := hP
  have hx := Bd.exec
  have hby := Bd.bytes
  have hlk := BodyLoose.notSynchronized Bd
  have hrt := Bd.returns
  have hml : c.maxLocals = 4 := hml0
  have hown : s.vm.findClass "com/example/dialtone/dialtone/workload/Workers$Sharing" = some m.cls := findClass_of_methodNamed Bd.named
  have hnm := (name_of_methodNamed Bd.named Bd.method).1
  have X0 : Stand p l e ({ frames := 0, cells := 0, slots := 0, locals := 0 } : Room) s m #[(.ref o0), (.long q1), (.int (1 : Int32))] below meth c s₁ [] 0 0 := Stand.of_body Bd
  have e0 : s₁.heap = h0 := by rw [← hh, Bd.state]; rfl
  have N0 := Fr.nil n0
  have K0 : Keep h0 h0 [o0] := Keep.refl h0 _
  show Runs p e below (QE s (Q_rm4_1 Z o0 q1 ta kt x0 x1 qv rr st sp sh0 h0 n0) ({ frames := 0, cells := 0, slots := 0, locals := 0 } : Room).cells ({ frames := 0, cells := 0, slots := 0, locals := 0 } : Room).slots) (s₁.setTop (entryFrame m #[(.ref o0), (.long q1), (.int (1 : Int32))] 4))
  rw [ef_4_4 m o0 q1]
  refine Runs.by (fun _ hr => XS.aloadN X0.here hx rfl (hb hby d4_0) rfl rfl hr) ?_
  refine Runs.by (fun _ hr => XS.lloadN X0.here hx rfl (hb hby d4_1) rfl  hr) ?_
  show Runs p e below _ (s₁.setTop (mkF m 2 #[.val (.ref o0), .val (.long q1), .second, .val (.int (1 : Int32))] [(.long q1), (.ref o0)]))
  obtain ⟨T1, h1, X1, e1, W1, st1⟩ := putF X0 hx hZ hown (host := "") (Or.inl (hw _ (List.mem_of_getElem? (i := 27) rfl))) Via.refl e0 P_started E0 (Or.inl (hw _ (List.mem_of_getElem? (i := 28) rfl))) (hw _ (List.mem_of_getElem? (i := 2) rfl)) (ty := .long) (by decide) rfl rfl (g := (mkF m 2 #[.val (.ref o0), .val (.long q1), .second, .val (.int (1 : Int32))] [(.long q1), (.ref o0)])) rfl rfl (hb hby d4_2)
  have Fw1 := P_started.same W1
  have K2 : Keep h0 h1 [o0] := K0.wr W1 (Or.inl (List.mem_of_getElem? (i := 0) rfl))
  have N1 := Fr.snoc X1 N0 g_o0
  refine Runs.by st1 ?_
  refine Runs.by (fun _ hr => XS.aloadN X1.here hx rfl (hb hby d4_5) rfl rfl hr) ?_
  refine Runs.by (fun _ hr => XS.iloadN X1.here hx rfl (hb hby d4_6) rfl  hr) ?_
  show Runs p e below _ (T1.setTop (mkF m 7 #[.val (.ref o0), .val (.long q1), .second, .val (.int (1 : Int32))] [(.int (1 : Int32)), (.ref o0)]))
  obtain ⟨T3, h3, X3, e3, W3, st3⟩ := putFN X1 hx hZ hown (hw _ (List.mem_of_getElem? (i := 29) rfl)) Via.refl e1 (P_shared.other W1 (Or.inr (slot_ne (Or.inl (hw _ (List.mem_of_getElem? (i := 30) rfl))) (Or.inl (hw _ (List.mem_of_getElem? (i := 28) rfl))) (by decide) (t := .boolean) (t' := .long) (by decide) (by decide)))) (E0.wr W1) (Or.inl (hw _ (List.mem_of_getElem? (i := 30) rfl))) (hw _ (List.mem_of_getElem? (i := 2) rfl)) (ty := .boolean) (v' := (.int (1 : Int32))) (by decide) rfl (by first | rfl | exact fits_nar_bool _) (g := (mkF m 7 #[.val (.ref o0), .val (.long q1), .second, .val (.int (1 : Int32))] [(.int (1 : Int32)), (.ref o0)])) rfl rfl (hb hby d4_7)
  have Fw3 := (P_shared.other W1 (Or.inr (slot_ne (Or.inl (hw _ (List.mem_of_getElem? (i := 30) rfl))) (Or.inl (hw _ (List.mem_of_getElem? (i := 28) rfl))) (by decide) (t := .boolean) (t' := .long) (by decide) (by decide)))).same W3
  have K4 : Keep h0 h3 [o0] := K2.wr W3 (Or.inl (List.mem_of_getElem? (i := 0) rfl))
  have N3 := Fr.snoc X3 N1 g_o0
  refine Runs.by st3 ?_
  refine Runs.by (fun _ hr => XS.aloadN X3.here hx rfl (hb hby d4_10) rfl rfl hr) ?_
  refine Runs.by (fun _ hr => XS.lconst X3.here hx rfl (hb hby d4_11) hr) ?_
  show Runs p e below _ (T3.setTop (mkF m 12 #[.val (.ref o0), .val (.long q1), .second, .val (.int (1 : Int32))] [(.long (0 : Int64)), (.ref o0)]))
  obtain ⟨T5, h5, X5, e5, W5, st5⟩ := putF X3 hx hZ hown (host := "") (Or.inl (hw _ (List.mem_of_getElem? (i := 31) rfl))) Via.refl e3 ((P_steps.other W1 (Or.inr (slot_ne (Or.inl (hw _ (List.mem_of_getElem? (i := 32) rfl))) (Or.inl (hw _ (List.mem_of_getElem? (i := 28) rfl))) (by decide) (t := .long) (t' := .long) (by decide) (by decide)))).other W3 (Or.inr (slot_ne (Or.inl (hw _ (List.mem_of_getElem? (i := 32) rfl))) (Or.inl (hw _ (List.mem_of_getElem? (i := 30) rfl))) (by decide) (t := .long) (t' := .boolean) (by decide) (by decide)))) ((E0.wr W1).wr W3) (Or.inl (hw _ (List.mem_of_getElem? (i := 32) rfl))) (hw _ (List.mem_of_getElem? (i := 2) rfl)) (ty := .long) (by decide) rfl rfl (g := (mkF m 12 #[.val (.ref o0), .val (.long q1), .second, .val (.int (1 : Int32))] [(.long (0 : Int64)), (.ref o0)])) rfl rfl (hb hby d4_12)
  have Fw5 := ((P_steps.other W1 (Or.inr (slot_ne (Or.inl (hw _ (List.mem_of_getElem? (i := 32) rfl))) (Or.inl (hw _ (List.mem_of_getElem? (i := 28) rfl))) (by decide) (t := .long) (t' := .long) (by decide) (by decide)))).other W3 (Or.inr (slot_ne (Or.inl (hw _ (List.mem_of_getElem? (i := 32) rfl))) (Or.inl (hw _ (List.mem_of_getElem? (i := 30) rfl))) (by decide) (t := .long) (t' := .boolean) (by decide) (by decide)))).same W5
  have K6 : Keep h0 h5 [o0] := K4.wr W5 (Or.inl (List.mem_of_getElem? (i := 0) rfl))
  have N5 := Fr.snoc X5 N3 g_o0
  refine Runs.by st5 ?_
  show Runs p e below _ (T5.setTop (mkF m 15 #[.val (.ref o0), .val (.long q1), .second, .val (.int (1 : Int32))] []))
  refine Runs.retV X5 hx hrt hlk (hb hby d4_15) (by decide) (by decide) ?_
  rw [e5]
  exact ⟨rfl, N5, K6, (((E0.wr W1).wr W3).wr W5), (((P_nanosPerStep.other W1 (Or.inr (slot_ne (Or.inr (hw _ (List.mem_of_getElem? (i := 12) rfl))) (Or.inl (hw _ (List.mem_of_getElem? (i := 28) rfl))) (by decide) (t := (.array .double)) (t' := .long) (by decide) (by decide)))).other W3 (Or.inr (slot_ne (Or.inr (hw _ (List.mem_of_getElem? (i := 12) rfl))) (Or.inl (hw _ (List.mem_of_getElem? (i := 30) rfl))) (by decide) (t := (.array .double)) (t' := .boolean) (by decide) (by decide)))).other W5 (Or.inr (slot_ne (Or.inr (hw _ (List.mem_of_getElem? (i := 12) rfl))) (Or.inl (hw _ (List.mem_of_getElem? (i := 32) rfl))) (by decide) (t := (.array .double)) (t' := .long) (by decide) (by decide)))), (((P_rounds.other W1 (Or.inr (slot_ne (Or.inl (hw _ (List.mem_of_getElem? (i := 19) rfl))) (Or.inl (hw _ (List.mem_of_getElem? (i := 28) rfl))) (by decide) (t := .long) (t' := .long) (by decide) (by decide)))).other W3 (Or.inr (slot_ne (Or.inl (hw _ (List.mem_of_getElem? (i := 19) rfl))) (Or.inl (hw _ (List.mem_of_getElem? (i := 30) rfl))) (by decide) (t := .long) (t' := .boolean) (by decide) (by decide)))).other W5 (Or.inr (slot_ne (Or.inl (hw _ (List.mem_of_getElem? (i := 19) rfl))) (Or.inl (hw _ (List.mem_of_getElem? (i := 32) rfl))) (by decide) (t := .long) (t' := .long) (by decide) (by decide)))), (((P_otherWay.other W1 (Or.inr (slot_ne (Or.inl (hw _ (List.mem_of_getElem? (i := 21) rfl))) (Or.inl (hw _ (List.mem_of_getElem? (i := 28) rfl))) (by decide) (t := .boolean) (t' := .long) (by decide) (by decide)))).other W3 (Or.inr (slot_ne (Or.inl (hw _ (List.mem_of_getElem? (i := 21) rfl))) (Or.inl (hw _ (List.mem_of_getElem? (i := 30) rfl))) (by decide) (t := .boolean) (t' := .boolean) (by decide) (by decide)))).other W5 (Or.inr (slot_ne (Or.inl (hw _ (List.mem_of_getElem? (i := 21) rfl))) (Or.inl (hw _ (List.mem_of_getElem? (i := 32) rfl))) (by decide) (t := .boolean) (t' := .long) (by decide) (by decide)))), ((Fw1.other W3 (Or.inr (slot_ne (Or.inl (hw _ (List.mem_of_getElem? (i := 28) rfl))) (Or.inl (hw _ (List.mem_of_getElem? (i := 30) rfl))) (by decide) (t := .long) (t' := .boolean) (by decide) (by decide)))).other W5 (Or.inr (slot_ne (Or.inl (hw _ (List.mem_of_getElem? (i := 28) rfl))) (Or.inl (hw _ (List.mem_of_getElem? (i := 32) rfl))) (by decide) (t := .long) (t' := .long) (by decide) (by decide)))), (Fw3.other W5 (Or.inr (slot_ne (Or.inl (hw _ (List.mem_of_getElem? (i := 30) rfl))) (Or.inl (hw _ (List.mem_of_getElem? (i := 32) rfl))) (by decide) (t := .boolean) (t' := .long) (by decide) (by decide)))), Fw5, (((P_sharedOverUnshared.other W1 (Or.inr (slot_ne (Or.inl (hw _ (List.mem_of_getElem? (i := 47) rfl))) (Or.inl (hw _ (List.mem_of_getElem? (i := 28) rfl))) (by decide) (t := .double) (t' := .long) (by decide) (by decide)))).other W3 (Or.inr (slot_ne (Or.inl (hw _ (List.mem_of_getElem? (i := 47) rfl))) (Or.inl (hw _ (List.mem_of_getElem? (i := 30) rfl))) (by decide) (t := .double) (t' := .boolean) (by decide) (by decide)))).other W5 (Or.inr (slot_ne (Or.inl (hw _ (List.mem_of_getElem? (i := 47) rfl))) (Or.inl (hw _ (List.mem_of_getElem? (i := 32) rfl))) (by decide) (t := .double) (t' := .long) (by decide) (by decide)))), (((VT.other W1 ne_ta_o0).other W3 ne_ta_o0).other W5 ne_ta_o0)⟩
theorem d5_0 : decode prog_268_method_4_code 0 = .ok (.aload_n 0, 1) := by decide +kernel
theorem d5_1 : decode prog_268_method_4_code 1 = .ok (.dup, 1) := by decide +kernel
theorem d5_2 : decode prog_268_method_4_code 2 = .ok (.getfield 35, 3) := by decide +kernel
theorem d5_5 : decode prog_268_method_4_code 5 = .ok (.lconst 1, 1) := by decide +kernel
theorem d5_6 : decode prog_268_method_4_code 6 = .ok (.ladd, 1) := by decide +kernel
theorem d5_7 : decode prog_268_method_4_code 7 = .ok (.putfield 35, 3) := by decide +kernel
theorem d5_10 : decode prog_268_method_4_code 10 = .ok (.return_, 1) := by decide +kernel
theorem ef_5_5 (m : MethodId) (o0 : Addr) : entryFrame m #[(.ref o0)] 1 = mkF m 0 #[.val (.ref o0)] [] := by first | (simp [entryFrame, mkF, argsToLocals, Value.category]; done) | rfl
def Q_rm5 (Z : State) (o0 : Addr) (ta : Addr) (kt : ClassId) (x0 x1 qv : UInt64) (rr st : Int64) (sh0 : Int32) (h0 : Heap) (n0 : Nat) (v : Option Value) (h : Heap) (L : List Loc) : Prop := v = none ∧ Fr n0 L ∧ Keep h0 h [o0] ∧ Exa Z h o0 "com/example/dialtone/dialtone/workload/Workers$Sharing" ∧ Fld Z h o0 "com/example/dialtone/dialtone/workload/Workers$Sharing" "nanosPerStep" "[D" (.ref ta) ∧ Fld Z h o0 "com/example/dialtone/dialtone/workload/Workers$Sharing" "rounds" "J" (.long rr) ∧ Fld Z h o0 "com/example/dialtone/dialtone/workload/Workers$Sharing" "otherWay" "Z" (.int (0 : Int32)) ∧ Fld Z h o0 "com/example/dialtone/dialtone/workload/Workers$Sharing" "started" "J" (.long st) ∧ Fld Z h o0 "com/example/dialtone/dialtone/workload/Workers$Sharing" "shared" "Z" (.int sh0) ∧ Fld Z h o0 "com/example/dialtone/dialtone/workload/Workers$Sharing" "steps" "J" (.long (1 : Int64)) ∧ Fld Z h o0 "com/example/dialtone/dialtone/workload/Workers$Sharing" "sharedOverUnshared" "D" (.double qv) ∧ Arv Z h ta kt .double (2 : Int32) [(.double x0), (.double x1)] (.double (0 : UInt64))
set_option maxRecDepth 65536 in
set_option maxHeartbeats 40000000 in
theorem rm5 (l : Launch) (Z : State) (a0 : Array Value) (hw : ∀ d ∈ tables_1, d.before a0 Z = true) (ws : List Jvm.Cond) (o0 : Addr) (ta : Addr) (kt : ClassId) (x0 x1 qv : UInt64) (rr st : Int64) (sh0 : Int32) (h0 : Heap) (n0 : Nat) (Z0 : n0 ≤ h0.size) (E0 : Exa Z h0 o0 "com/example/dialtone/dialtone/workload/Workers$Sharing") (g_o0 : n0 ≤ o0) (g_ta : n0 ≤ ta) (ne_ta_o0 : ta ≠ o0) (P_nanosPerStep : Fld Z h0 o0 "com/example/dialtone/dialtone/workload/Workers$Sharing" "nanosPerStep" "[D" (.ref ta)) (P_rounds : Fld Z h0 o0 "com/example/dialtone/dialtone/workload/Workers$Sharing" "rounds" "J" (.long rr)) (P_otherWay : Fld Z h0 o0 "com/example/dialtone/dialtone/workload/Workers$Sharing" "otherWay" "Z" (.int (0 : Int32))) (P_started : Fld Z h0 o0 "com/example/dialtone/dialtone/workload/Workers$Sharing" "started" "J" (.long st)) (P_shared : Fld Z h0 o0 "com/example/dialtone/dialtone/workload/Workers$Sharing" "shared" "Z" (.int sh0)) (P_steps : Fld Z h0 o0 "com/example/dialtone/dialtone/workload/Workers$Sharing" "steps" "J" (.long (0 : Int64))) (P_sharedOverUnshared : Fld Z h0 o0 "com/example/dialtone/dialtone/workload/Workers$Sharing" "sharedOverUnshared" "D" (.double qv)) (VT : Arv Z h0 ta kt .double (2 : Int32) [(.double x0), (.double x1)] (.double (0 : UInt64))) :
    MetFree l (⟨"com/example/dialtone/dialtone/workload/Workers$Sharing", "stepped", "()V"⟩ : MethodName) (head1 (Jvm.Cond.code (⟨"com/example/dialtone/dialtone/workload/Workers$Sharing", "stepped", "()V"⟩ : MethodName) prog_268_method_4_code 1 none :: ws) ({ frames := 0, cells := 0, slots := 0, locals := 0 } : Room)) (fun a U => a = #[(.ref o0)] ∧ Z.Warmed39 U.vm ∧ U.heap = h0) (fun _ _ _ _ _ => True) (fun _ U o U' => ∃ v L, o = .returned v ∧ Q_rm5 Z o0 ta kt x0 x1 qv rr st sh0 h0 n0 v U'.heap L ∧ FrameEnd U o U' L ({ frames := 0, cells := 0, slots := 0, locals := 0 } : Room).cells ({ frames := 0, cells := 0, slots := 0, locals := 0 } : Room).slots) := by
  refine MetFree.of_bodySF (plainFor_of_name pn_com_example_dialtone_dialtone_workload_Workers_Sharing) hisR ?_
  intro p e s m args below meth c s₁ Bd hml0 hP hK
  obtain ⟨rfl, hZ, hh⟩ := hP
  have hx := Bd.exec
  have hby := Bd.bytes
  have hlk := BodyLoose.notSynchronized Bd
  have hrt := Bd.returns
  have hml : c.maxLocals = 1 := hml0
  have hown : s.vm.findClass "com/example/dialtone/dialtone/workload/Workers$Sharing" = some m.cls := findClass_of_methodNamed Bd.named
  have hnm := (name_of_methodNamed Bd.named Bd.method).1
  have X0 : Stand p l e ({ frames := 0, cells := 0, slots := 0, locals := 0 } : Room) s m #[(.ref o0)] below meth c s₁ [] 0 0 := Stand.of_body Bd
  have e0 : s₁.heap = h0 := by rw [← hh, Bd.state]; rfl
  have N0 := Fr.nil n0
  have K0 : Keep h0 h0 [o0] := Keep.refl h0 _
  show Runs p e below (QE s (Q_rm5 Z o0 ta kt x0 x1 qv rr st sh0 h0 n0) ({ frames := 0, cells := 0, slots := 0, locals := 0 } : Room).cells ({ frames := 0, cells := 0, slots := 0, locals := 0 } : Room).slots) (s₁.setTop (entryFrame m #[(.ref o0)] 1))
  rw [ef_5_5 m o0]
  refine Runs.by (fun _ hr => XS.aloadN X0.here hx rfl (hb hby d5_0) rfl rfl hr) ?_
  refine Runs.by (fun _ hr => XS.dup X0.here hx rfl (hb hby d5_1) rfl rfl hr) ?_
  show Runs p e below _ (s₁.setTop (mkF m 2 #[.val (.ref o0)] [(.ref o0), (.ref o0)]))
  obtain ⟨T1, X1, e1, st1⟩ := getF X0 hx hZ hown (host := "") (Or.inl (hw _ (List.mem_of_getElem? (i := 31) rfl))) Via.refl e0 P_steps (g := (mkF m 2 #[.val (.ref o0)] [(.ref o0), (.ref o0)])) rfl rfl (hb hby d5_2)
  refine Runs.by st1 ?_
  refine Runs.by (fun _ hr => XS.lconst X1.here hx rfl (hb hby d5_5) hr) ?_
  refine Runs.by (fun _ hr => XS.ladd X1.here hx rfl (hb hby d5_6) rfl hr) ?_
  show Runs p e below _ (T1.setTop (mkF m 7 #[.val (.ref o0)] [(.long (1 : Int64)), (.ref o0)]))
  obtain ⟨T2, h2, X2, e2, W2, st2⟩ := putF X1 hx hZ hown (host := "") (Or.inl (hw _ (List.mem_of_getElem? (i := 31) rfl))) Via.refl e1 P_steps E0 (Or.inl (hw _ (List.mem_of_getElem? (i := 32) rfl))) (hw _ (List.mem_of_getElem? (i := 2) rfl)) (ty := .long) (by decide) rfl rfl (g := (mkF m 7 #[.val (.ref o0)] [(.long (1 : Int64)), (.ref o0)])) rfl rfl (hb hby d5_7)
  have Fw2 := P_steps.same W2
  have K3 : Keep h0 h2 [o0] := K0.wr W2 (Or.inl (List.mem_of_getElem? (i := 0) rfl))
  have N2 := Fr.snoc X2 N0 g_o0
  refine Runs.by st2 ?_
  show Runs p e below _ (T2.setTop (mkF m 10 #[.val (.ref o0)] []))
  refine Runs.retV X2 hx hrt hlk (hb hby d5_10) (by decide) (by decide) ?_
  rw [e2]
  exact ⟨rfl, N2, K3, (E0.wr W2), (P_nanosPerStep.other W2 (Or.inr (slot_ne (Or.inr (hw _ (List.mem_of_getElem? (i := 12) rfl))) (Or.inl (hw _ (List.mem_of_getElem? (i := 32) rfl))) (by decide) (t := (.array .double)) (t' := .long) (by decide) (by decide)))), (P_rounds.other W2 (Or.inr (slot_ne (Or.inl (hw _ (List.mem_of_getElem? (i := 19) rfl))) (Or.inl (hw _ (List.mem_of_getElem? (i := 32) rfl))) (by decide) (t := .long) (t' := .long) (by decide) (by decide)))), (P_otherWay.other W2 (Or.inr (slot_ne (Or.inl (hw _ (List.mem_of_getElem? (i := 21) rfl))) (Or.inl (hw _ (List.mem_of_getElem? (i := 32) rfl))) (by decide) (t := .boolean) (t' := .long) (by decide) (by decide)))), (P_started.other W2 (Or.inr (slot_ne (Or.inl (hw _ (List.mem_of_getElem? (i := 28) rfl))) (Or.inl (hw _ (List.mem_of_getElem? (i := 32) rfl))) (by decide) (t := .long) (t' := .long) (by decide) (by decide)))), (P_shared.other W2 (Or.inr (slot_ne (Or.inl (hw _ (List.mem_of_getElem? (i := 30) rfl))) (Or.inl (hw _ (List.mem_of_getElem? (i := 32) rfl))) (by decide) (t := .boolean) (t' := .long) (by decide) (by decide)))), Fw2, (P_sharedOverUnshared.other W2 (Or.inr (slot_ne (Or.inl (hw _ (List.mem_of_getElem? (i := 47) rfl))) (Or.inl (hw _ (List.mem_of_getElem? (i := 32) rfl))) (by decide) (t := .double) (t' := .long) (by decide) (by decide)))), (VT.other W2 ne_ta_o0)⟩
theorem d6_0 : decode prog_268_method_5_code 0 = .ok (.aload_n 0, 1) := by decide +kernel
theorem d6_1 : decode prog_268_method_5_code 1 = .ok (.getfield 29, 3) := by decide +kernel
theorem d6_4 : decode prog_268_method_5_code 4 = .ok (.lconst 0, 1) := by decide +kernel
theorem d6_5 : decode prog_268_method_5_code 5 = .ok (.lcmp, 1) := by decide +kernel
theorem d6_6 : decode prog_268_method_5_code 6 = .ok (.ifCond .eq 160, 3) := by decide +kernel
theorem d6_9 : decode prog_268_method_5_code 9 = .ok (.aload_n 0, 1) := by decide +kernel
theorem d6_10 : decode prog_268_method_5_code 10 = .ok (.getfield 35, 3) := by decide +kernel
theorem d6_13 : decode prog_268_method_5_code 13 = .ok (.lconst 0, 1) := by decide +kernel
theorem d6_14 : decode prog_268_method_5_code 14 = .ok (.lcmp, 1) := by decide +kernel
theorem d6_15 : decode prog_268_method_5_code 15 = .ok (.ifCond .le 151, 3) := by decide +kernel
theorem d6_18 : decode prog_268_method_5_code 18 = .ok (.lload_n 1, 1) := by decide +kernel
theorem d6_19 : decode prog_268_method_5_code 19 = .ok (.aload_n 0, 1) := by decide +kernel
theorem d6_20 : decode prog_268_method_5_code 20 = .ok (.getfield 29, 3) := by decide +kernel
theorem d6_23 : decode prog_268_method_5_code 23 = .ok (.lsub, 1) := by decide +kernel
theorem d6_24 : decode prog_268_method_5_code 24 = .ok (.l2d, 1) := by decide +kernel
theorem d6_25 : decode prog_268_method_5_code 25 = .ok (.aload_n 0, 1) := by decide +kernel
theorem d6_26 : decode prog_268_method_5_code 26 = .ok (.getfield 35, 3) := by decide +kernel
theorem d6_29 : decode prog_268_method_5_code 29 = .ok (.l2d, 1) := by decide +kernel
theorem d6_30 : decode prog_268_method_5_code 30 = .ok (.ddiv, 1) := by decide +kernel
theorem d6_31 : decode prog_268_method_5_code 31 = .ok (.dstore_n 3, 1) := by decide +kernel
theorem d6_32 : decode prog_268_method_5_code 32 = .ok (.aload_n 0, 1) := by decide +kernel
theorem d6_33 : decode prog_268_method_5_code 33 = .ok (.getfield 32, 3) := by decide +kernel
theorem d6_36 : decode prog_268_method_5_code 36 = .ok (.ifCond .eq 7, 3) := by decide +kernel
theorem d6_39 : decode prog_268_method_5_code 39 = .ok (.iconst 1, 1) := by decide +kernel
theorem d6_40 : decode prog_268_method_5_code 40 = .ok (.goto 4, 3) := by decide +kernel
theorem d6_43 : decode prog_268_method_5_code 43 = .ok (.iconst 0, 1) := by decide +kernel
theorem d6_44 : decode prog_268_method_5_code 44 = .ok (.istore 5, 2) := by decide +kernel
theorem d6_46 : decode prog_268_method_5_code 46 = .ok (.aload_n 0, 1) := by decide +kernel
theorem d6_47 : decode prog_268_method_5_code 47 = .ok (.getfield 17, 3) := by decide +kernel
theorem d6_50 : decode prog_268_method_5_code 50 = .ok (.ifCond .eq 58, 3) := by decide +kernel
theorem d6_53 : decode prog_268_method_5_code 53 = .ok (.aload_n 0, 1) := by decide +kernel
theorem d6_54 : decode prog_268_method_5_code 54 = .ok (.getfield 7, 3) := by decide +kernel
theorem d6_57 : decode prog_268_method_5_code 57 = .ok (.iconst 1, 1) := by decide +kernel
theorem d6_58 : decode prog_268_method_5_code 58 = .ok (.iload 5, 2) := by decide +kernel
theorem d6_60 : decode prog_268_method_5_code 60 = .ok (.isub, 1) := by decide +kernel
theorem d6_61 : decode prog_268_method_5_code 61 = .ok (.daload, 1) := by decide +kernel
theorem d6_62 : decode prog_268_method_5_code 62 = .ok (.dconst 0, 1) := by decide +kernel
theorem d6_63 : decode prog_268_method_5_code 63 = .ok (.dcmp .l, 1) := by decide +kernel
theorem d6_64 : decode prog_268_method_5_code 64 = .ok (.ifCond .eq 44, 3) := by decide +kernel
theorem d6_67 : decode prog_268_method_5_code 67 = .ok (.aload_n 0, 1) := by decide +kernel
theorem d6_68 : decode prog_268_method_5_code 68 = .ok (.getfield 32, 3) := by decide +kernel
theorem d6_71 : decode prog_268_method_5_code 71 = .ok (.ifCond .eq 14, 3) := by decide +kernel
theorem d6_74 : decode prog_268_method_5_code 74 = .ok (.dload_n 3, 1) := by decide +kernel
theorem d6_75 : decode prog_268_method_5_code 75 = .ok (.aload_n 0, 1) := by decide +kernel
theorem d6_76 : decode prog_268_method_5_code 76 = .ok (.getfield 7, 3) := by decide +kernel
theorem d6_79 : decode prog_268_method_5_code 79 = .ok (.iconst 0, 1) := by decide +kernel
theorem d6_80 : decode prog_268_method_5_code 80 = .ok (.daload, 1) := by decide +kernel
theorem d6_81 : decode prog_268_method_5_code 81 = .ok (.ddiv, 1) := by decide +kernel
theorem d6_82 : decode prog_268_method_5_code 82 = .ok (.goto 11, 3) := by decide +kernel
theorem d6_85 : decode prog_268_method_5_code 85 = .ok (.aload_n 0, 1) := by decide +kernel
theorem d6_86 : decode prog_268_method_5_code 86 = .ok (.getfield 7, 3) := by decide +kernel
theorem d6_89 : decode prog_268_method_5_code 89 = .ok (.iconst 1, 1) := by decide +kernel
theorem d6_90 : decode prog_268_method_5_code 90 = .ok (.daload, 1) := by decide +kernel
theorem d6_91 : decode prog_268_method_5_code 91 = .ok (.dload_n 3, 1) := by decide +kernel
theorem d6_92 : decode prog_268_method_5_code 92 = .ok (.ddiv, 1) := by decide +kernel
theorem d6_93 : decode prog_268_method_5_code 93 = .ok (.dstore 6, 2) := by decide +kernel
theorem d6_95 : decode prog_268_method_5_code 95 = .ok (.aload_n 0, 1) := by decide +kernel
theorem d6_96 : decode prog_268_method_5_code 96 = .ok (.aload_n 0, 1) := by decide +kernel
theorem d6_97 : decode prog_268_method_5_code 97 = .ok (.getfield 23, 3) := by decide +kernel
theorem d6_100 : decode prog_268_method_5_code 100 = .ok (.dload 6, 2) := by decide +kernel
theorem d6_102 : decode prog_268_method_5_code 102 = .ok (.invokestatic 38, 3) := by decide +kernel
theorem d6_105 : decode prog_268_method_5_code 105 = .ok (.putfield 23, 3) := by decide +kernel
theorem d6_108 : decode prog_268_method_5_code 108 = .ok (.aload_n 0, 1) := by decide +kernel
theorem d6_109 : decode prog_268_method_5_code 109 = .ok (.getfield 7, 3) := by decide +kernel
theorem d6_112 : decode prog_268_method_5_code 112 = .ok (.iload 5, 2) := by decide +kernel
theorem d6_114 : decode prog_268_method_5_code 114 = .ok (.aload_n 0, 1) := by decide +kernel
theorem d6_115 : decode prog_268_method_5_code 115 = .ok (.getfield 7, 3) := by decide +kernel
theorem d6_118 : decode prog_268_method_5_code 118 = .ok (.iload 5, 2) := by decide +kernel
theorem d6_120 : decode prog_268_method_5_code 120 = .ok (.daload, 1) := by decide +kernel
theorem d6_121 : decode prog_268_method_5_code 121 = .ok (.dload_n 3, 1) := by decide +kernel
theorem d6_122 : decode prog_268_method_5_code 122 = .ok (.invokestatic 38, 3) := by decide +kernel
theorem d6_125 : decode prog_268_method_5_code 125 = .ok (.dastore, 1) := by decide +kernel
theorem d6_126 : decode prog_268_method_5_code 126 = .ok (.aload_n 0, 1) := by decide +kernel
theorem d6_127 : decode prog_268_method_5_code 127 = .ok (.getfield 23, 3) := by decide +kernel
theorem d6_130 : decode prog_268_method_5_code 130 = .ok (.dconst 0, 1) := by decide +kernel
theorem d6_131 : decode prog_268_method_5_code 131 = .ok (.dcmp .l, 1) := by decide +kernel
theorem d6_132 : decode prog_268_method_5_code 132 = .ok (.ifCond .ne 34, 3) := by decide +kernel
theorem d6_135 : decode prog_268_method_5_code 135 = .ok (.aload_n 0, 1) := by decide +kernel
theorem d6_136 : decode prog_268_method_5_code 136 = .ok (.getfield 7, 3) := by decide +kernel
theorem d6_139 : decode prog_268_method_5_code 139 = .ok (.iconst 1, 1) := by decide +kernel
theorem d6_140 : decode prog_268_method_5_code 140 = .ok (.iload 5, 2) := by decide +kernel
theorem d6_142 : decode prog_268_method_5_code 142 = .ok (.isub, 1) := by decide +kernel
theorem d6_143 : decode prog_268_method_5_code 143 = .ok (.daload, 1) := by decide +kernel
theorem d6_144 : decode prog_268_method_5_code 144 = .ok (.dconst 0, 1) := by decide +kernel
theorem d6_145 : decode prog_268_method_5_code 145 = .ok (.dcmp .l, 1) := by decide +kernel
theorem d6_146 : decode prog_268_method_5_code 146 = .ok (.ifCond .eq 20, 3) := by decide +kernel
theorem d6_149 : decode prog_268_method_5_code 149 = .ok (.aload_n 0, 1) := by decide +kernel
theorem d6_150 : decode prog_268_method_5_code 150 = .ok (.aload_n 0, 1) := by decide +kernel
theorem d6_151 : decode prog_268_method_5_code 151 = .ok (.getfield 7, 3) := by decide +kernel
theorem d6_154 : decode prog_268_method_5_code 154 = .ok (.iconst 1, 1) := by decide +kernel
theorem d6_155 : decode prog_268_method_5_code 155 = .ok (.daload, 1) := by decide +kernel
theorem d6_156 : decode prog_268_method_5_code 156 = .ok (.aload_n 0, 1) := by decide +kernel
theorem d6_157 : decode prog_268_method_5_code 157 = .ok (.getfield 7, 3) := by decide +kernel
theorem d6_160 : decode prog_268_method_5_code 160 = .ok (.iconst 0, 1) := by decide +kernel
theorem d6_161 : decode prog_268_method_5_code 161 = .ok (.daload, 1) := by decide +kernel
theorem d6_162 : decode prog_268_method_5_code 162 = .ok (.ddiv, 1) := by decide +kernel
theorem d6_163 : decode prog_268_method_5_code 163 = .ok (.putfield 23, 3) := by decide +kernel
theorem d6_166 : decode prog_268_method_5_code 166 = .ok (.aload_n 0, 1) := by decide +kernel
theorem d6_167 : decode prog_268_method_5_code 167 = .ok (.lconst 0, 1) := by decide +kernel
theorem d6_168 : decode prog_268_method_5_code 168 = .ok (.putfield 29, 3) := by decide +kernel
theorem d6_171 : decode prog_268_method_5_code 171 = .ok (.return_, 1) := by decide +kernel
theorem ef_6_6 (m : MethodId) (o0 : Addr) (q1 : Int64) : entryFrame m #[(.ref o0), (.long q1)] 8 = mkF m 0 #[.val (.ref o0), .val (.long q1), .second, .unset, .unset, .unset, .unset, .unset] [] := by first | (simp [entryFrame, mkF, argsToLocals, Value.category]; done) | rfl
def Q_rm6_0z (Z : State) (o0 : Addr) (q1 : Int64) (ta : Addr) (kt : ClassId) (rr st d A : Int64) (h0 : Heap) (n0 : Nat) (v : Option Value) (h : Heap) (L : List Loc) : Prop := v = none ∧ Fr n0 L ∧ Keep h0 h [o0, ta] ∧ Exa Z h o0 "com/example/dialtone/dialtone/workload/Workers$Sharing" ∧ Fld Z h o0 "com/example/dialtone/dialtone/workload/Workers$Sharing" "nanosPerStep" "[D" (.ref ta) ∧ Fld Z h o0 "com/example/dialtone/dialtone/workload/Workers$Sharing" "rounds" "J" (.long rr) ∧ Fld Z h o0 "com/example/dialtone/dialtone/workload/Workers$Sharing" "otherWay" "Z" (.int (0 : Int32)) ∧ Fld Z h o0 "com/example/dialtone/dialtone/workload/Workers$Sharing" "started" "J" (.long (0 : Int64)) ∧ Fld Z h o0 "com/example/dialtone/dialtone/workload/Workers$Sharing" "shared" "Z" (.int (0 : Int32)) ∧ Fld Z h o0 "com/example/dialtone/dialtone/workload/Workers$Sharing" "steps" "J" (.long (1 : Int64)) ∧ Fld Z h o0 "com/example/dialtone/dialtone/workload/Workers$Sharing" "sharedOverUnshared" "D" (.double (own_Q st A (FP.ddiv (FP.l2d A) (FP.l2d (own_D st d))))) ∧ Arv Z h ta kt .double (2 : Int32) [(.double (FP.l2d (own_D st d))), (.double (FP.l2d A))] (.double (0 : UInt64))
theorem pd_0 : parseMethodDescriptor "(DD)D" = some ⟨[.double, .double], some .double⟩ := by decide +kernel
set_option maxRecDepth 65536 in
set_option maxHeartbeats 40000000 in
theorem rm6_0z (l : Launch) (Z : State) (a0 : Array Value) (hw : ∀ d ∈ tables_1, d.before a0 Z = true) (ws : List Jvm.Cond) (o0 : Addr) (q1 : Int64) (ta : Addr) (kt : ClassId) (rr st d A : Int64) (h0 : Heap) (n0 : Nat) (Z0 : n0 ≤ h0.size) (E0 : Exa Z h0 o0 "com/example/dialtone/dialtone/workload/Workers$Sharing") (g_o0 : n0 ≤ o0) (g_ta : n0 ≤ ta) (ne_ta_o0 : ta ≠ o0) (P_nanosPerStep : Fld Z h0 o0 "com/example/dialtone/dialtone/workload/Workers$Sharing" "nanosPerStep" "[D" (.ref ta)) (P_rounds : Fld Z h0 o0 "com/example/dialtone/dialtone/workload/Workers$Sharing" "rounds" "J" (.long rr)) (P_otherWay : Fld Z h0 o0 "com/example/dialtone/dialtone/workload/Workers$Sharing" "otherWay" "Z" (.int (0 : Int32))) (P_started : Fld Z h0 o0 "com/example/dialtone/dialtone/workload/Workers$Sharing" "started" "J" (.long st)) (P_shared : Fld Z h0 o0 "com/example/dialtone/dialtone/workload/Workers$Sharing" "shared" "Z" (.int (0 : Int32))) (P_steps : Fld Z h0 o0 "com/example/dialtone/dialtone/workload/Workers$Sharing" "steps" "J" (.long (1 : Int64))) (P_sharedOverUnshared : Fld Z h0 o0 "com/example/dialtone/dialtone/workload/Workers$Sharing" "sharedOverUnshared" "D" (.double (0 : UInt64))) (VT : Arv Z h0 ta kt .double (2 : Int32) [(.double (FP.l2d (0 : Int64))), (.double (FP.l2d A))] (.double (0 : UInt64))) (hd : q1 - st = d) (cd : own_ct d) (cA : own_ct A) :
    MetFree l (⟨"com/example/dialtone/dialtone/workload/Workers$Sharing", "ended", "(J)V"⟩ : MethodName) (head1 (Jvm.Cond.code (⟨"com/example/dialtone/dialtone/workload/Workers$Sharing", "ended", "(J)V"⟩ : MethodName) prog_268_method_5_code 8 none :: ws) ({ frames := 1, cells := 0, slots := 0, locals := 20 } : Room)) (fun a U => a = #[(.ref o0), (.long q1)] ∧ Z.Warmed39 U.vm ∧ U.heap = h0) (fun _ _ _ _ _ => True) (fun _ U o U' => ∃ v L, o = .returned v ∧ Q_rm6_0z Z o0 q1 ta kt rr st d A h0 n0 v U'.heap L ∧ FrameEnd U o U' L ({ frames := 1, cells := 0, slots := 0, locals := 20 } : Room).cells ({ frames := 1, cells := 0, slots := 0, locals := 20 } : Room).slots) := by
  refine MetFree.of_bodySF (plainFor_of_name pn_com_example_dialtone_dialtone_workload_Workers_Sharing) hisR ?_
  intro p e s m args below meth c s₁ Bd hml0 hP hK
  obtain ⟨rfl, hZ, hh⟩ := hP
  have hx := Bd.exec
  have hby := Bd.bytes
  have hlk := BodyLoose.notSynchronized Bd
  have hrt := Bd.returns
  have hml : c.maxLocals = 8 := hml0
  have hown : s.vm.findClass "com/example/dialtone/dialtone/workload/Workers$Sharing" = some m.cls := findClass_of_methodNamed Bd.named
  have hnm := (name_of_methodNamed Bd.named Bd.method).1
  have X0 : Stand p l e ({ frames := 1, cells := 0, slots := 0, locals := 20 } : Room) s m #[(.ref o0), (.long q1)] below meth c s₁ [] 0 0 := Stand.of_body Bd
  have e0 : s₁.heap = h0 := by rw [← hh, Bd.state]; rfl
  have N0 := Fr.nil n0
  have K0 : Keep h0 h0 [o0, ta] := Keep.refl h0 _
  show Runs p e below (QE s (Q_rm6_0z Z o0 q1 ta kt rr st d A h0 n0) ({ frames := 1, cells := 0, slots := 0, locals := 20 } : Room).cells ({ frames := 1, cells := 0, slots := 0, locals := 20 } : Room).slots) (s₁.setTop (entryFrame m #[(.ref o0), (.long q1)] 8))
  rw [ef_6_6 m o0 q1]
  refine Runs.by (fun _ hr => XS.aloadN X0.here hx rfl (hb hby d6_0) rfl rfl hr) ?_
  show Runs p e below _ (s₁.setTop (mkF m 1 #[.val (.ref o0), .val (.long q1), .second, .unset, .unset, .unset, .unset, .unset] [(.ref o0)]))
  obtain ⟨T1, X1, e1, st1⟩ := getF X0 hx hZ hown (host := "") (Or.inl (hw _ (List.mem_of_getElem? (i := 27) rfl))) Via.refl e0 P_started (g := (mkF m 1 #[.val (.ref o0), .val (.long q1), .second, .unset, .unset, .unset, .unset, .unset] [(.ref o0)])) rfl rfl (hb hby d6_1)
  refine Runs.by st1 ?_
  refine Runs.by (fun _ hr => XS.lconst X1.here hx rfl (hb hby d6_4) hr) ?_
  refine Runs.by (fun _ hr => XS.lcmp X1.here hx rfl (hb hby d6_5) rfl hr) ?_
  show Runs p e below _ (T1.setTop (mkF m 6 #[.val (.ref o0), .val (.long q1), .second, .unset, .unset, .unset, .unset, .unset] [(.int (lcmpW st (0 : Int64)))]))
  by_cases hc6 : (lcmpW st (0 : Int64)) = (0 : Int32)
  · -- pc 6: (lcmpW st (0 : Int64)) = (0 : Int32)
    refine Runs.by (fun _ hr => XS.ifYes X1.here hx rfl (pc0 := 6) (pc' := 166) rfl (hb hby d6_6) rfl ((if0 _ _).trans (teq hc6).1) (by decide) (by decide) hr) ?_
    refine Runs.by (fun _ hr => XS.aloadN X1.here hx rfl (hb hby d6_166) rfl rfl hr) ?_
    refine Runs.by (fun _ hr => XS.lconst X1.here hx rfl (hb hby d6_167) hr) ?_
    show Runs p e below _ (T1.setTop (mkF m 168 #[.val (.ref o0), .val (.long q1), .second, .unset, .unset, .unset, .unset, .unset] [(.long (0 : Int64)), (.ref o0)]))
    obtain ⟨T2, h2, X2, e2, W2, st2⟩ := putF X1 hx hZ hown (host := "") (Or.inl (hw _ (List.mem_of_getElem? (i := 27) rfl))) Via.refl e1 P_started E0 (Or.inl (hw _ (List.mem_of_getElem? (i := 28) rfl))) (hw _ (List.mem_of_getElem? (i := 2) rfl)) (ty := .long) (by decide) rfl rfl (g := (mkF m 168 #[.val (.ref o0), .val (.long q1), .second, .unset, .unset, .unset, .unset, .unset] [(.long (0 : Int64)), (.ref o0)])) rfl rfl (hb hby d6_168)
    have Fw2 := P_started.same W2
    have K3 : Keep h0 h2 [o0, ta] := K0.wr W2 (Or.inl (List.mem_of_getElem? (i := 0) rfl))
    have N2 := Fr.snoc X2 N0 g_o0
    refine Runs.by st2 ?_
    show Runs p e below _ (T2.setTop (mkF m 171 #[.val (.ref o0), .val (.long q1), .second, .unset, .unset, .unset, .unset, .unset] []))
    refine Runs.retV X2 hx hrt hlk (hb hby d6_171) (by decide) (by decide) ?_
    rw [e2]
    unfold Q_rm6_0z
    have hst : st = 0 := own_lcz.mp hc6
    rw [own_D, if_pos hst, own_Q, if_pos hst]
    exact ⟨rfl, N2, K3, (E0.wr W2), (P_nanosPerStep.other W2 (Or.inr (slot_ne (Or.inr (hw _ (List.mem_of_getElem? (i := 12) rfl))) (Or.inl (hw _ (List.mem_of_getElem? (i := 28) rfl))) (by decide) (t := (.array .double)) (t' := .long) (by decide) (by decide)))), (P_rounds.other W2 (Or.inr (slot_ne (Or.inl (hw _ (List.mem_of_getElem? (i := 19) rfl))) (Or.inl (hw _ (List.mem_of_getElem? (i := 28) rfl))) (by decide) (t := .long) (t' := .long) (by decide) (by decide)))), (P_otherWay.other W2 (Or.inr (slot_ne (Or.inl (hw _ (List.mem_of_getElem? (i := 21) rfl))) (Or.inl (hw _ (List.mem_of_getElem? (i := 28) rfl))) (by decide) (t := .boolean) (t' := .long) (by decide) (by decide)))), Fw2, (P_shared.other W2 (Or.inr (slot_ne (Or.inl (hw _ (List.mem_of_getElem? (i := 30) rfl))) (Or.inl (hw _ (List.mem_of_getElem? (i := 28) rfl))) (by decide) (t := .boolean) (t' := .long) (by decide) (by decide)))), (P_steps.other W2 (Or.inr (slot_ne (Or.inl (hw _ (List.mem_of_getElem? (i := 32) rfl))) (Or.inl (hw _ (List.mem_of_getElem? (i := 28) rfl))) (by decide) (t := .long) (t' := .long) (by decide) (by decide)))), (P_sharedOverUnshared.other W2 (Or.inr (slot_ne (Or.inl (hw _ (List.mem_of_getElem? (i := 47) rfl))) (Or.inl (hw _ (List.mem_of_getElem? (i := 28) rfl))) (by decide) (t := .double) (t' := .long) (by decide) (by decide)))), (VT.other W2 ne_ta_o0)⟩
  · -- pc 6: not (lcmpW st (0 : Int64)) = (0 : Int32)
    refine Runs.by (fun _ hr => XS.ifNo X1.here hx rfl (hb hby d6_6) rfl ((if0 _ _).trans (feq hc6).1) hr) ?_
    refine Runs.by (fun _ hr => XS.aloadN X1.here hx rfl (hb hby d6_9) rfl rfl hr) ?_
    show Runs p e below _ (T1.setTop (mkF m 10 #[.val (.ref o0), .val (.long q1), .second, .unset, .unset, .unset, .unset, .unset] [(.ref o0)]))
    obtain ⟨T4, X4, e4, st4⟩ := getF X1 hx hZ hown (host := "") (Or.inl (hw _ (List.mem_of_getElem? (i := 31) rfl))) Via.refl e1 P_steps (g := (mkF m 10 #[.val (.ref o0), .val (.long q1), .second, .unset, .unset, .unset, .unset, .unset] [(.ref o0)])) rfl rfl (hb hby d6_10)
    refine Runs.by st4 ?_
    refine Runs.by (fun _ hr => XS.lconst X4.here hx rfl (hb hby d6_13) hr) ?_
    refine Runs.by (fun _ hr => XS.lcmp X4.here hx rfl (hb hby d6_14) rfl hr) ?_
    show Runs p e below _ (T4.setTop (mkF m 15 #[.val (.ref o0), .val (.long q1), .second, .unset, .unset, .unset, .unset, .unset] [(.int (lcmpW (1 : Int64) (0 : Int64)))]))
    have hc15 : (0 : Int32) < (lcmpW (1 : Int64) (0 : Int64)) := (by decide)
    refine Runs.by (fun _ hr => XS.ifNo X4.here hx rfl (hb hby d6_15) rfl ((if0 _ _).trans (tlt hc15).2.2.2) hr) ?_
    refine Runs.by (fun _ hr => XS.lloadN X4.here hx rfl (hb hby d6_18) rfl  hr) ?_
    refine Runs.by (fun _ hr => XS.aloadN X4.here hx rfl (hb hby d6_19) rfl rfl hr) ?_
    show Runs p e below _ (T4.setTop (mkF m 20 #[.val (.ref o0), .val (.long q1), .second, .unset, .unset, .unset, .unset, .unset] [(.ref o0), (.long q1)]))
    obtain ⟨T5, X5, e5, st5⟩ := getF X4 hx hZ hown (host := "") (Or.inl (hw _ (List.mem_of_getElem? (i := 27) rfl))) Via.refl e4 P_started (g := (mkF m 20 #[.val (.ref o0), .val (.long q1), .second, .unset, .unset, .unset, .unset, .unset] [(.ref o0), (.long q1)])) rfl rfl (hb hby d6_20)
    refine Runs.by st5 ?_
    show Runs p e below _ (T5.setTop (mkF m 23 #[.val (.ref o0), .val (.long q1), .second, .unset, .unset, .unset, .unset, .unset] [(.long st), (.long q1)]))
    refine Runs.by (fun _ hr => XS.lsub X5.here hx rfl (hb hby d6_23) rfl hr) ?_
    show Runs p e below _ (T5.setTop (mkF m 24 #[.val (.ref o0), .val (.long q1), .second, .unset, .unset, .unset, .unset, .unset] [(.long (q1 - st))]))
    refine Runs.by (fun _ hr => XS.l2dS X5.here hx rfl (hb hby d6_24) rfl rfl hr) ?_
    refine Runs.by (fun _ hr => XS.aloadN X5.here hx rfl (hb hby d6_25) rfl rfl hr) ?_
    show Runs p e below _ (T5.setTop (mkF m 26 #[.val (.ref o0), .val (.long q1), .second, .unset, .unset, .unset, .unset, .unset] [(.ref o0), (.double (FP.l2d (q1 - st)))]))
    obtain ⟨T6, X6, e6, st6⟩ := getF X5 hx hZ hown (host := "") (Or.inl (hw _ (List.mem_of_getElem? (i := 31) rfl))) Via.refl e5 P_steps (g := (mkF m 26 #[.val (.ref o0), .val (.long q1), .second, .unset, .unset, .unset, .unset, .unset] [(.ref o0), (.double (FP.l2d (q1 - st)))])) rfl rfl (hb hby d6_26)
    refine Runs.by st6 ?_
    show Runs p e below _ (T6.setTop (mkF m 29 #[.val (.ref o0), .val (.long q1), .second, .unset, .unset, .unset, .unset, .unset] [(.long (1 : Int64)), (.double (FP.l2d (q1 - st)))]))
    refine Runs.by (fun _ hr => XS.l2dS X6.here hx rfl (hb hby d6_29) rfl rfl hr) ?_
    show Runs p e below _ (T6.setTop (mkF m 30 #[.val (.ref o0), .val (.long q1), .second, .unset, .unset, .unset, .unset, .unset] [(.double (FP.l2d (1 : Int64))), (.double (FP.l2d (q1 - st)))]))
    refine Runs.by (fun _ hr => XS.ddivS X6.here hx rfl (hb hby d6_30) rfl (own_nn1 _) rfl hr) ?_
    rw [own_ddiv1, hd]
    refine Runs.by (fun _ hr => XS.dstoreN X6.here hx rfl (hb hby d6_31) rfl (l' := #[.val (.ref o0), .val (.long q1), .second, .val (.double (FP.l2d d)), .second, .unset, .unset, .unset]) rfl hr) ?_
    refine Runs.by (fun _ hr => XS.aloadN X6.here hx rfl (hb hby d6_32) rfl rfl hr) ?_
    show Runs p e below _ (T6.setTop (mkF m 33 #[.val (.ref o0), .val (.long q1), .second, .val (.double (FP.l2d d)), .second, .unset, .unset, .unset] [(.ref o0)]))
    obtain ⟨T7, X7, e7, st7⟩ := getF X6 hx hZ hown (host := "") (Or.inl (hw _ (List.mem_of_getElem? (i := 29) rfl))) Via.refl e6 P_shared (g := (mkF m 33 #[.val (.ref o0), .val (.long q1), .second, .val (.double (FP.l2d d)), .second, .unset, .unset, .unset] [(.ref o0)])) rfl rfl (hb hby d6_33)
    refine Runs.by st7 ?_
    have hc36 : (0 : Int32) = (0 : Int32) := (by decide)
    refine Runs.by (fun _ hr => XS.ifYes X7.here hx rfl (pc0 := 36) (pc' := 43) rfl (hb hby d6_36) rfl ((if0 _ _).trans (teq hc36).1) (by decide) (by decide) hr) ?_
    refine Runs.by (fun _ hr => XS.iconst X7.here hx rfl (hb hby d6_43) hr) ?_
    show Runs p e below _ (T7.setTop (mkF m 44 #[.val (.ref o0), .val (.long q1), .second, .val (.double (FP.l2d d)), .second, .unset, .unset, .unset] [(.int (0 : Int32))]))
    refine Runs.by (fun _ hr => XS.istore X7.here hx rfl (hb hby d6_44) rfl (l' := #[.val (.ref o0), .val (.long q1), .second, .val (.double (FP.l2d d)), .second, .val (.int (0 : Int32)), .unset, .unset]) rfl hr) ?_
    refine Runs.by (fun _ hr => XS.aloadN X7.here hx rfl (hb hby d6_46) rfl rfl hr) ?_
    show Runs p e below _ (T7.setTop (mkF m 47 #[.val (.ref o0), .val (.long q1), .second, .val (.double (FP.l2d d)), .second, .val (.int (0 : Int32)), .unset, .unset] [(.ref o0)]))
    obtain ⟨T8, X8, e8, st8⟩ := getF X7 hx hZ hown (host := "") (Or.inl (hw _ (List.mem_of_getElem? (i := 20) rfl))) Via.refl e7 P_otherWay (g := (mkF m 47 #[.val (.ref o0), .val (.long q1), .second, .val (.double (FP.l2d d)), .second, .val (.int (0 : Int32)), .unset, .unset] [(.ref o0)])) rfl rfl (hb hby d6_47)
    refine Runs.by st8 ?_
    have hc50 : (0 : Int32) = (0 : Int32) := (by decide)
    refine Runs.by (fun _ hr => XS.ifYes X8.here hx rfl (pc0 := 50) (pc' := 108) rfl (hb hby d6_50) rfl ((if0 _ _).trans (teq hc50).1) (by decide) (by decide) hr) ?_
    refine Runs.by (fun _ hr => XS.aloadN X8.here hx rfl (hb hby d6_108) rfl rfl hr) ?_
    show Runs p e below _ (T8.setTop (mkF m 109 #[.val (.ref o0), .val (.long q1), .second, .val (.double (FP.l2d d)), .second, .val (.int (0 : Int32)), .unset, .unset] [(.ref o0)]))
    obtain ⟨T9, X9, e9, st9⟩ := getF X8 hx hZ hown (host := "") (Or.inl (hw _ (List.mem_of_getElem? (i := 11) rfl))) Via.refl e8 P_nanosPerStep (g := (mkF m 109 #[.val (.ref o0), .val (.long q1), .second, .val (.double (FP.l2d d)), .second, .val (.int (0 : Int32)), .unset, .unset] [(.ref o0)])) rfl rfl (hb hby d6_109)
    refine Runs.by st9 ?_
    refine Runs.by (fun _ hr => XS.iload X9.here hx rfl (hb hby d6_112) rfl  hr) ?_
    refine Runs.by (fun _ hr => XS.aloadN X9.here hx rfl (hb hby d6_114) rfl rfl hr) ?_
    show Runs p e below _ (T9.setTop (mkF m 115 #[.val (.ref o0), .val (.long q1), .second, .val (.double (FP.l2d d)), .second, .val (.int (0 : Int32)), .unset, .unset] [(.ref o0), (.int (0 : Int32)), (.ref ta)]))
    obtain ⟨T10, X10, e10, st10⟩ := getF X9 hx hZ hown (host := "") (Or.inl (hw _ (List.mem_of_getElem? (i := 11) rfl))) Via.refl e9 P_nanosPerStep (g := (mkF m 115 #[.val (.ref o0), .val (.long q1), .second, .val (.double (FP.l2d d)), .second, .val (.int (0 : Int32)), .unset, .unset] [(.ref o0), (.int (0 : Int32)), (.ref ta)])) rfl rfl (hb hby d6_115)
    refine Runs.by st10 ?_
    refine Runs.by (fun _ hr => XS.iload X10.here hx rfl (hb hby d6_118) rfl  hr) ?_
    show Runs p e below _ (T10.setTop (mkF m 120 #[.val (.ref o0), .val (.long q1), .second, .val (.double (FP.l2d d)), .second, .val (.int (0 : Int32)), .unset, .unset] [(.int (0 : Int32)), (.ref ta), (.int (0 : Int32)), (.ref ta)]))
    obtain ⟨cl11, Ar11, -, S11, N11', H11, -⟩ := id VT
    have hin11 : ¬ ((0 : Int32) < 0 ∨ cl11.slots.size ≤ ((0 : Int32)).toNatClampNeg) := inb_of S11 ⟨by decide, by decide⟩
    have hat11 := H11.at hin11 (v := (.double (FP.l2d (0 : Int64)))) rfl
    refine Runs.by (fun t hr => X10.daload hx (j := (0 : Int32)) (v := (.double (FP.l2d (0 : Int64)))) (by rw [e10]; exact Ar11.1) (State.isArrayOf_alike hZ.alike Ar11.2.1) Ar11.2.2 hin11 hat11 (g := (mkF m 120 #[.val (.ref o0), .val (.long q1), .second, .val (.double (FP.l2d d)), .second, .val (.int (0 : Int32)), .unset, .unset] [(.int (0 : Int32)), (.ref ta), (.int (0 : Int32)), (.ref ta)])) rfl rfl (hb hby d6_120) t hr) ?_
    refine Runs.by (fun _ hr => XS.dloadN X10.here hx rfl (hb hby d6_121) rfl  hr) ?_
    show Runs p e below _ (T10.setTop (mkF m 122 #[.val (.ref o0), .val (.long q1), .second, .val (.double (FP.l2d d)), .second, .val (.int (0 : Int32)), .unset, .unset] [(.double (FP.l2d d)), (.double (FP.l2d (0 : Int64))), (.int (0 : Int32)), (.ref ta)]))
    obtain ⟨_, _, ⟨T12, L12, k12, n12⟩, -, X12, ⟨Lc12, hQ12, l12, y12, z12⟩, st12⟩ := Jvm.LawKit.callS X10 hx (y := (⟨"com/example/dialtone/dialtone/workload/Workers$Sharing", "average", "(DD)D"⟩ : MethodName)) hown (mvT hZ (hw _ (List.mem_of_getElem? (i := 43) rfl))) (mvT hZ (hw _ (List.mem_of_getElem? (i := 44) rfl))) (mvT hZ (hw _ (List.mem_of_getElem? (i := 3) rfl))) (mvT hZ (hw _ (List.mem_of_getElem? (i := 45) rfl))) (by decide) (backOf (W := 2) (rm7a l Z a0 hw [] (FP.l2d (0 : Int64)) (FP.l2d d)  h0 n0 (Nat.le_trans Z0 K0.1) own_c00) hZ (hw _ (List.mem_of_getElem? (i := 45) rfl)) (hw _ (List.mem_of_getElem? (i := 3) rfl)) (by decide) (by decide)) (g := (mkF m 122 #[.val (.ref o0), .val (.long q1), .second, .val (.double (FP.l2d d)), .second, .val (.int (0 : Int32)), .unset, .unset] [(.double (FP.l2d d)), (.double (FP.l2d (0 : Int64))), (.int (0 : Int32)), (.ref ta)])) rfl (by rw [hml]; rfl) (argsL := [(.double (FP.l2d (0 : Int64))), (.double (FP.l2d d))]) (rest := [(.int (0 : Int32)), (.ref ta)]) (lenOf pd_0 rfl) rfl (by show 2 * 0 + _ ≤ _; exact Nat.le_of_eq rfl) (hb hby d6_122) (fun _ _ => ⟨rfl, e10, (by decide : 0 + 0 ≤ _), (by decide : 0 + 0 ≤ _)⟩)
    dsimp only [Pt.U, Pt.locs, Pt.cells, Pt.slots] at X12 l12 y12 z12 st12 hQ12
    subst l12 y12 z12
    obtain ⟨rfl, Nq12, eq12⟩ := hQ12
    have N12 := Fr.app N0 Nq12
    refine Runs.by (fun t hr => st12 t hr) ?_
    show Runs p e below _ (T12.setTop (mkF m 125 #[.val (.ref o0), .val (.long q1), .second, .val (.double (FP.l2d d)), .second, .val (.int (0 : Int32)), .unset, .unset] [(.double (FP.l2d d)), (.int (0 : Int32)), (.ref ta)]))
    obtain ⟨cl13, Ar13, q13, S13, N13', H13, G13⟩ := id VT
    have hin13 : ¬ ((0 : Int32) < 0 ∨ cl13.slots.size ≤ ((0 : Int32)).toNatClampNeg) := inb_of S13 ⟨by decide, by decide⟩
    obtain ⟨T13, h13, X13, e13, W13, st13⟩ := stD X12 hx hZ eq12 Ar13 (j := (0 : Int32)) hin13 (g := (mkF m 125 #[.val (.ref o0), .val (.long q1), .second, .val (.double (FP.l2d d)), .second, .val (.int (0 : Int32)), .unset, .unset] [(.double (FP.l2d d)), (.int (0 : Int32)), (.ref ta)])) rfl rfl (hb hby d6_125)
    have V13 : Arv Z h13 ta kt .double (2 : Int32) [(.double (FP.l2d d)), (.double (FP.l2d A))] (.double (0 : UInt64)) := Arv.set Ar13 q13 S13 N13' H13 G13 rfl W13 (0) rfl (Nat.le_of_ble_eq_true rfl)
    have K14 : Keep h0 h13 [o0, ta] := K0.wr W13 (Or.inl (List.mem_of_getElem? (i := 1) rfl))
    have N13 := Fr.snoc X13 N12 g_ta
    refine Runs.by st13 ?_
    refine Runs.by (fun _ hr => XS.aloadN X13.here hx rfl (hb hby d6_126) rfl rfl hr) ?_
    show Runs p e below _ (T13.setTop (mkF m 127 #[.val (.ref o0), .val (.long q1), .second, .val (.double (FP.l2d d)), .second, .val (.int (0 : Int32)), .unset, .unset] [(.ref o0)]))
    obtain ⟨T15, X15, e15, st15⟩ := getF X13 hx hZ hown (host := "") (Or.inl (hw _ (List.mem_of_getElem? (i := 46) rfl))) Via.refl e13 (P_sharedOverUnshared.other W13 (Or.inl (Ne.symm ne_ta_o0))) (g := (mkF m 127 #[.val (.ref o0), .val (.long q1), .second, .val (.double (FP.l2d d)), .second, .val (.int (0 : Int32)), .unset, .unset] [(.ref o0)])) rfl rfl (hb hby d6_127)
    refine Runs.by st15 ?_
    refine Runs.by (fun _ hr => XS.dconst0 X15.here hx rfl (hb hby d6_130) rfl hr) ?_
    show Runs p e below _ (T15.setTop (mkF m 131 #[.val (.ref o0), .val (.long q1), .second, .val (.double (FP.l2d d)), .second, .val (.int (0 : Int32)), .unset, .unset] [(.double FP.dconst0), (.double (0 : UInt64))]))
    refine Runs.by (fun _ hr => XS.dcmpS X15.here hx rfl (hb hby d6_131) rfl rfl hr) ?_
    have hc132 : (cmpValue (FP.dcmp (0 : UInt64) FP.dconst0) .l) = (0 : Int32) := own_cz
    refine Runs.by (fun _ hr => XS.ifNo X15.here hx rfl (hb hby d6_132) rfl ((if0 _ _).trans (teq hc132).2) hr) ?_
    refine Runs.by (fun _ hr => XS.aloadN X15.here hx rfl (hb hby d6_135) rfl rfl hr) ?_
    show Runs p e below _ (T15.setTop (mkF m 136 #[.val (.ref o0), .val (.long q1), .second, .val (.double (FP.l2d d)), .second, .val (.int (0 : Int32)), .unset, .unset] [(.ref o0)]))
    obtain ⟨T16, X16, e16, st16⟩ := getF X15 hx hZ hown (host := "") (Or.inl (hw _ (List.mem_of_getElem? (i := 11) rfl))) Via.refl e15 (P_nanosPerStep.other W13 (Or.inl (Ne.symm ne_ta_o0))) (g := (mkF m 136 #[.val (.ref o0), .val (.long q1), .second, .val (.double (FP.l2d d)), .second, .val (.int (0 : Int32)), .unset, .unset] [(.ref o0)])) rfl rfl (hb hby d6_136)
    refine Runs.by st16 ?_
    refine Runs.by (fun _ hr => XS.iconst X16.here hx rfl (hb hby d6_139) hr) ?_
    refine Runs.by (fun _ hr => XS.iload X16.here hx rfl (hb hby d6_140) rfl  hr) ?_
    show Runs p e below _ (T16.setTop (mkF m 142 #[.val (.ref o0), .val (.long q1), .second, .val (.double (FP.l2d d)), .second, .val (.int (0 : Int32)), .unset, .unset] [(.int (0 : Int32)), (.int (1 : Int32)), (.ref ta)]))
    refine Runs.by (fun _ hr => XS.isub X16.here hx rfl (hb hby d6_142) rfl hr) ?_
    show Runs p e below _ (T16.setTop (mkF m 143 #[.val (.ref o0), .val (.long q1), .second, .val (.double (FP.l2d d)), .second, .val (.int (0 : Int32)), .unset, .unset] [(.int (1 : Int32)), (.ref ta)]))
    obtain ⟨cl17, Ar17, -, S17, N17', H17, -⟩ := id V13
    have hin17 : ¬ ((1 : Int32) < 0 ∨ cl17.slots.size ≤ ((1 : Int32)).toNatClampNeg) := inb_of S17 ⟨by decide, by decide⟩
    have hat17 := H17.at hin17 (v := (.double (FP.l2d A))) rfl
    refine Runs.by (fun t hr => X16.daload hx (j := (1 : Int32)) (v := (.double (FP.l2d A))) (by rw [e16]; exact Ar17.1) (State.isArrayOf_alike hZ.alike Ar17.2.1) Ar17.2.2 hin17 hat17 (g := (mkF m 143 #[.val (.ref o0), .val (.long q1), .second, .val (.double (FP.l2d d)), .second, .val (.int (0 : Int32)), .unset, .unset] [(.int (1 : Int32)), (.ref ta)])) rfl rfl (hb hby d6_143) t hr) ?_
    refine Runs.by (fun _ hr => XS.dconst0 X16.here hx rfl (hb hby d6_144) rfl hr) ?_
    show Runs p e below _ (T16.setTop (mkF m 145 #[.val (.ref o0), .val (.long q1), .second, .val (.double (FP.l2d d)), .second, .val (.int (0 : Int32)), .unset, .unset] [(.double FP.dconst0), (.double (FP.l2d A))]))
    refine Runs.by (fun _ hr => XS.dcmpS X16.here hx rfl (hb hby d6_145) rfl rfl hr) ?_
    by_cases hc146 : (cmpValue (FP.dcmp (FP.l2d A) FP.dconst0) .l) = (0 : Int32)
    · -- pc 146: (cmpValue (FP.dcmp (FP.l2d A) FP.dconst0) .l) = (0 : Int32)
      refine Runs.by (fun _ hr => XS.ifYes X16.here hx rfl (pc0 := 146) (pc' := 166) rfl (hb hby d6_146) rfl ((if0 _ _).trans (teq hc146).1) (by decide) (by decide) hr) ?_
      refine Runs.by (fun _ hr => XS.aloadN X16.here hx rfl (hb hby d6_166) rfl rfl hr) ?_
      show Runs p e below _ (T16.setTop (mkF m 167 #[.val (.ref o0), .val (.long q1), .second, .val (.double (FP.l2d d)), .second, .val (.int (0 : Int32)), .unset, .unset] [(.ref o0)]))
      refine Runs.by (fun _ hr => XS.lconst X16.here hx rfl (hb hby d6_167) hr) ?_
      show Runs p e below _ (T16.setTop (mkF m 168 #[.val (.ref o0), .val (.long q1), .second, .val (.double (FP.l2d d)), .second, .val (.int (0 : Int32)), .unset, .unset] [(.long (0 : Int64)), (.ref o0)]))
      obtain ⟨T18, h18, X18, e18, W18, st18⟩ := putF X16 hx hZ hown (host := "") (Or.inl (hw _ (List.mem_of_getElem? (i := 27) rfl))) Via.refl e16 (P_started.other W13 (Or.inl (Ne.symm ne_ta_o0))) (E0.wr W13) (Or.inl (hw _ (List.mem_of_getElem? (i := 28) rfl))) (hw _ (List.mem_of_getElem? (i := 2) rfl)) (ty := .long) (by decide) rfl rfl (g := (mkF m 168 #[.val (.ref o0), .val (.long q1), .second, .val (.double (FP.l2d d)), .second, .val (.int (0 : Int32)), .unset, .unset] [(.long (0 : Int64)), (.ref o0)])) rfl rfl (hb hby d6_168)
      have Fw18 := (P_started.other W13 (Or.inl (Ne.symm ne_ta_o0))).same W18
      have K19 : Keep h0 h18 [o0, ta] := K14.wr W18 (Or.inl (List.mem_of_getElem? (i := 0) rfl))
      have N18 := Fr.snoc X18 N13 g_o0
      refine Runs.by st18 ?_
      show Runs p e below _ (T18.setTop (mkF m 171 #[.val (.ref o0), .val (.long q1), .second, .val (.double (FP.l2d d)), .second, .val (.int (0 : Int32)), .unset, .unset] []))
      refine Runs.retV X18 hx hrt hlk (hb hby d6_171) (by decide) (by decide) ?_
      rw [e18]
      unfold Q_rm6_0z
      have hst : ¬ st = 0 := fun z => hc6 (own_lcz.mpr z)
      have hA : A = 0 := (own_cA cA).mp hc146
      rw [own_D, if_neg hst, own_Q, if_neg hst, if_pos hA]
      exact ⟨rfl, N18, K19, ((E0.wr W13).wr W18), ((P_nanosPerStep.other W13 (Or.inl (Ne.symm ne_ta_o0))).other W18 (Or.inr (slot_ne (Or.inr (hw _ (List.mem_of_getElem? (i := 12) rfl))) (Or.inl (hw _ (List.mem_of_getElem? (i := 28) rfl))) (by decide) (t := (.array .double)) (t' := .long) (by decide) (by decide)))), ((P_rounds.other W13 (Or.inl (Ne.symm ne_ta_o0))).other W18 (Or.inr (slot_ne (Or.inl (hw _ (List.mem_of_getElem? (i := 19) rfl))) (Or.inl (hw _ (List.mem_of_getElem? (i := 28) rfl))) (by decide) (t := .long) (t' := .long) (by decide) (by decide)))), ((P_otherWay.other W13 (Or.inl (Ne.symm ne_ta_o0))).other W18 (Or.inr (slot_ne (Or.inl (hw _ (List.mem_of_getElem? (i := 21) rfl))) (Or.inl (hw _ (List.mem_of_getElem? (i := 28) rfl))) (by decide) (t := .boolean) (t' := .long) (by decide) (by decide)))), Fw18, ((P_shared.other W13 (Or.inl (Ne.symm ne_ta_o0))).other W18 (Or.inr (slot_ne (Or.inl (hw _ (List.mem_of_getElem? (i := 30) rfl))) (Or.inl (hw _ (List.mem_of_getElem? (i := 28) rfl))) (by decide) (t := .boolean) (t' := .long) (by decide) (by decide)))), ((P_steps.other W13 (Or.inl (Ne.symm ne_ta_o0))).other W18 (Or.inr (slot_ne (Or.inl (hw _ (List.mem_of_getElem? (i := 32) rfl))) (Or.inl (hw _ (List.mem_of_getElem? (i := 28) rfl))) (by decide) (t := .long) (t' := .long) (by decide) (by decide)))), ((P_sharedOverUnshared.other W13 (Or.inl (Ne.symm ne_ta_o0))).other W18 (Or.inr (slot_ne (Or.inl (hw _ (List.mem_of_getElem? (i := 47) rfl))) (Or.inl (hw _ (List.mem_of_getElem? (i := 28) rfl))) (by decide) (t := .double) (t' := .long) (by decide) (by decide)))), (V13.other W18 ne_ta_o0)⟩
    · -- pc 146: not (cmpValue (FP.dcmp (FP.l2d A) FP.dconst0) .l) = (0 : Int32)
      refine Runs.by (fun _ hr => XS.ifNo X16.here hx rfl (hb hby d6_146) rfl ((if0 _ _).trans (feq hc146).1) hr) ?_
      refine Runs.by (fun _ hr => XS.aloadN X16.here hx rfl (hb hby d6_149) rfl rfl hr) ?_
      show Runs p e below _ (T16.setTop (mkF m 150 #[.val (.ref o0), .val (.long q1), .second, .val (.double (FP.l2d d)), .second, .val (.int (0 : Int32)), .unset, .unset] [(.ref o0)]))
      refine Runs.by (fun _ hr => XS.aloadN X16.here hx rfl (hb hby d6_150) rfl rfl hr) ?_
      show Runs p e below _ (T16.setTop (mkF m 151 #[.val (.ref o0), .val (.long q1), .second, .val (.double (FP.l2d d)), .second, .val (.int (0 : Int32)), .unset, .unset] [(.ref o0), (.ref o0)]))
      obtain ⟨T20, X20, e20, st20⟩ := getF X16 hx hZ hown (host := "") (Or.inl (hw _ (List.mem_of_getElem? (i := 11) rfl))) Via.refl e16 (P_nanosPerStep.other W13 (Or.inl (Ne.symm ne_ta_o0))) (g := (mkF m 151 #[.val (.ref o0), .val (.long q1), .second, .val (.double (FP.l2d d)), .second, .val (.int (0 : Int32)), .unset, .unset] [(.ref o0), (.ref o0)])) rfl rfl (hb hby d6_151)
      refine Runs.by st20 ?_
      refine Runs.by (fun _ hr => XS.iconst X20.here hx rfl (hb hby d6_154) hr) ?_
      show Runs p e below _ (T20.setTop (mkF m 155 #[.val (.ref o0), .val (.long q1), .second, .val (.double (FP.l2d d)), .second, .val (.int (0 : Int32)), .unset, .unset] [(.int (1 : Int32)), (.ref ta), (.ref o0)]))
      obtain ⟨cl21, Ar21, -, S21, N21', H21, -⟩ := id V13
      have hin21 : ¬ ((1 : Int32) < 0 ∨ cl21.slots.size ≤ ((1 : Int32)).toNatClampNeg) := inb_of S21 ⟨by decide, by decide⟩
      have hat21 := H21.at hin21 (v := (.double (FP.l2d A))) rfl
      refine Runs.by (fun t hr => X20.daload hx (j := (1 : Int32)) (v := (.double (FP.l2d A))) (by rw [e20]; exact Ar21.1) (State.isArrayOf_alike hZ.alike Ar21.2.1) Ar21.2.2 hin21 hat21 (g := (mkF m 155 #[.val (.ref o0), .val (.long q1), .second, .val (.double (FP.l2d d)), .second, .val (.int (0 : Int32)), .unset, .unset] [(.int (1 : Int32)), (.ref ta), (.ref o0)])) rfl rfl (hb hby d6_155) t hr) ?_
      refine Runs.by (fun _ hr => XS.aloadN X20.here hx rfl (hb hby d6_156) rfl rfl hr) ?_
      show Runs p e below _ (T20.setTop (mkF m 157 #[.val (.ref o0), .val (.long q1), .second, .val (.double (FP.l2d d)), .second, .val (.int (0 : Int32)), .unset, .unset] [(.ref o0), (.double (FP.l2d A)), (.ref o0)]))
      obtain ⟨T22, X22, e22, st22⟩ := getF X20 hx hZ hown (host := "") (Or.inl (hw _ (List.mem_of_getElem? (i := 11) rfl))) Via.refl e20 (P_nanosPerStep.other W13 (Or.inl (Ne.symm ne_ta_o0))) (g := (mkF m 157 #[.val (.ref o0), .val (.long q1), .second, .val (.double (FP.l2d d)), .second, .val (.int (0 : Int32)), .unset, .unset] [(.ref o0), (.double (FP.l2d A)), (.ref o0)])) rfl rfl (hb hby d6_157)
      refine Runs.by st22 ?_
      refine Runs.by (fun _ hr => XS.iconst X22.here hx rfl (hb hby d6_160) hr) ?_
      show Runs p e below _ (T22.setTop (mkF m 161 #[.val (.ref o0), .val (.long q1), .second, .val (.double (FP.l2d d)), .second, .val (.int (0 : Int32)), .unset, .unset] [(.int (0 : Int32)), (.ref ta), (.double (FP.l2d A)), (.ref o0)]))
      obtain ⟨cl23, Ar23, -, S23, N23', H23, -⟩ := id V13
      have hin23 : ¬ ((0 : Int32) < 0 ∨ cl23.slots.size ≤ ((0 : Int32)).toNatClampNeg) := inb_of S23 ⟨by decide, by decide⟩
      have hat23 := H23.at hin23 (v := (.double (FP.l2d d))) rfl
      refine Runs.by (fun t hr => X22.daload hx (j := (0 : Int32)) (v := (.double (FP.l2d d))) (by rw [e22]; exact Ar23.1) (State.isArrayOf_alike hZ.alike Ar23.2.1) Ar23.2.2 hin23 hat23 (g := (mkF m 161 #[.val (.ref o0), .val (.long q1), .second, .val (.double (FP.l2d d)), .second, .val (.int (0 : Int32)), .unset, .unset] [(.int (0 : Int32)), (.ref ta), (.double (FP.l2d A)), (.ref o0)])) rfl rfl (hb hby d6_161) t hr) ?_
      show Runs p e below _ (T22.setTop (mkF m 162 #[.val (.ref o0), .val (.long q1), .second, .val (.double (FP.l2d d)), .second, .val (.int (0 : Int32)), .unset, .unset] [(.double (FP.l2d d)), (.double (FP.l2d A)), (.ref o0)]))
      refine Runs.by (fun _ hr => XS.ddivS X22.here hx rfl (hb hby d6_162) rfl (own_q_nn2 (fun z => hc146 ((own_cA cA).mpr z)) _) rfl hr) ?_
      show Runs p e below _ (T22.setTop (mkF m 163 #[.val (.ref o0), .val (.long q1), .second, .val (.double (FP.l2d d)), .second, .val (.int (0 : Int32)), .unset, .unset] [(.double (FP.ddiv (FP.l2d A) (FP.l2d d))), (.ref o0)]))
      obtain ⟨T24, h24, X24, e24, W24, st24⟩ := putF X22 hx hZ hown (host := "") (Or.inl (hw _ (List.mem_of_getElem? (i := 46) rfl))) Via.refl e22 (P_sharedOverUnshared.other W13 (Or.inl (Ne.symm ne_ta_o0))) (E0.wr W13) (Or.inl (hw _ (List.mem_of_getElem? (i := 47) rfl))) (hw _ (List.mem_of_getElem? (i := 2) rfl)) (ty := .double) (by decide) rfl rfl (g := (mkF m 163 #[.val (.ref o0), .val (.long q1), .second, .val (.double (FP.l2d d)), .second, .val (.int (0 : Int32)), .unset, .unset] [(.double (FP.ddiv (FP.l2d A) (FP.l2d d))), (.ref o0)])) rfl rfl (hb hby d6_163)
      have Fw24 := (P_sharedOverUnshared.other W13 (Or.inl (Ne.symm ne_ta_o0))).same W24
      have K25 : Keep h0 h24 [o0, ta] := K14.wr W24 (Or.inl (List.mem_of_getElem? (i := 0) rfl))
      have N24 := Fr.snoc X24 N13 g_o0
      refine Runs.by st24 ?_
      refine Runs.by (fun _ hr => XS.aloadN X24.here hx rfl (hb hby d6_166) rfl rfl hr) ?_
      refine Runs.by (fun _ hr => XS.lconst X24.here hx rfl (hb hby d6_167) hr) ?_
      show Runs p e below _ (T24.setTop (mkF m 168 #[.val (.ref o0), .val (.long q1), .second, .val (.double (FP.l2d d)), .second, .val (.int (0 : Int32)), .unset, .unset] [(.long (0 : Int64)), (.ref o0)]))
      obtain ⟨T26, h26, X26, e26, W26, st26⟩ := putF X24 hx hZ hown (host := "") (Or.inl (hw _ (List.mem_of_getElem? (i := 27) rfl))) Via.refl e24 ((P_started.other W13 (Or.inl (Ne.symm ne_ta_o0))).other W24 (Or.inr (slot_ne (Or.inl (hw _ (List.mem_of_getElem? (i := 28) rfl))) (Or.inl (hw _ (List.mem_of_getElem? (i := 47) rfl))) (by decide) (t := .long) (t' := .double) (by decide) (by decide)))) ((E0.wr W13).wr W24) (Or.inl (hw _ (List.mem_of_getElem? (i := 28) rfl))) (hw _ (List.mem_of_getElem? (i := 2) rfl)) (ty := .long) (by decide) rfl rfl (g := (mkF m 168 #[.val (.ref o0), .val (.long q1), .second, .val (.double (FP.l2d d)), .second, .val (.int (0 : Int32)), .unset, .unset] [(.long (0 : Int64)), (.ref o0)])) rfl rfl (hb hby d6_168)
      have Fw26 := ((P_started.other W13 (Or.inl (Ne.symm ne_ta_o0))).other W24 (Or.inr (slot_ne (Or.inl (hw _ (List.mem_of_getElem? (i := 28) rfl))) (Or.inl (hw _ (List.mem_of_getElem? (i := 47) rfl))) (by decide) (t := .long) (t' := .double) (by decide) (by decide)))).same W26
      have K27 : Keep h0 h26 [o0, ta] := K25.wr W26 (Or.inl (List.mem_of_getElem? (i := 0) rfl))
      have N26 := Fr.snoc X26 N24 g_o0
      refine Runs.by st26 ?_
      show Runs p e below _ (T26.setTop (mkF m 171 #[.val (.ref o0), .val (.long q1), .second, .val (.double (FP.l2d d)), .second, .val (.int (0 : Int32)), .unset, .unset] []))
      refine Runs.retV X26 hx hrt hlk (hb hby d6_171) (by decide) (by decide) ?_
      rw [e26]
      unfold Q_rm6_0z
      have hst : ¬ st = 0 := fun z => hc6 (own_lcz.mpr z)
      have hA : ¬ A = 0 := fun z => hc146 ((own_cA cA).mpr z)
      rw [own_D, if_neg hst, own_Q, if_neg hst, if_neg hA]
      exact ⟨rfl, N26, K27, (((E0.wr W13).wr W24).wr W26), (((P_nanosPerStep.other W13 (Or.inl (Ne.symm ne_ta_o0))).other W24 (Or.inr (slot_ne (Or.inr (hw _ (List.mem_of_getElem? (i := 12) rfl))) (Or.inl (hw _ (List.mem_of_getElem? (i := 47) rfl))) (by decide) (t := (.array .double)) (t' := .double) (by decide) (by decide)))).other W26 (Or.inr (slot_ne (Or.inr (hw _ (List.mem_of_getElem? (i := 12) rfl))) (Or.inl (hw _ (List.mem_of_getElem? (i := 28) rfl))) (by decide) (t := (.array .double)) (t' := .long) (by decide) (by decide)))), (((P_rounds.other W13 (Or.inl (Ne.symm ne_ta_o0))).other W24 (Or.inr (slot_ne (Or.inl (hw _ (List.mem_of_getElem? (i := 19) rfl))) (Or.inl (hw _ (List.mem_of_getElem? (i := 47) rfl))) (by decide) (t := .long) (t' := .double) (by decide) (by decide)))).other W26 (Or.inr (slot_ne (Or.inl (hw _ (List.mem_of_getElem? (i := 19) rfl))) (Or.inl (hw _ (List.mem_of_getElem? (i := 28) rfl))) (by decide) (t := .long) (t' := .long) (by decide) (by decide)))), (((P_otherWay.other W13 (Or.inl (Ne.symm ne_ta_o0))).other W24 (Or.inr (slot_ne (Or.inl (hw _ (List.mem_of_getElem? (i := 21) rfl))) (Or.inl (hw _ (List.mem_of_getElem? (i := 47) rfl))) (by decide) (t := .boolean) (t' := .double) (by decide) (by decide)))).other W26 (Or.inr (slot_ne (Or.inl (hw _ (List.mem_of_getElem? (i := 21) rfl))) (Or.inl (hw _ (List.mem_of_getElem? (i := 28) rfl))) (by decide) (t := .boolean) (t' := .long) (by decide) (by decide)))), Fw26, (((P_shared.other W13 (Or.inl (Ne.symm ne_ta_o0))).other W24 (Or.inr (slot_ne (Or.inl (hw _ (List.mem_of_getElem? (i := 30) rfl))) (Or.inl (hw _ (List.mem_of_getElem? (i := 47) rfl))) (by decide) (t := .boolean) (t' := .double) (by decide) (by decide)))).other W26 (Or.inr (slot_ne (Or.inl (hw _ (List.mem_of_getElem? (i := 30) rfl))) (Or.inl (hw _ (List.mem_of_getElem? (i := 28) rfl))) (by decide) (t := .boolean) (t' := .long) (by decide) (by decide)))), (((P_steps.other W13 (Or.inl (Ne.symm ne_ta_o0))).other W24 (Or.inr (slot_ne (Or.inl (hw _ (List.mem_of_getElem? (i := 32) rfl))) (Or.inl (hw _ (List.mem_of_getElem? (i := 47) rfl))) (by decide) (t := .long) (t' := .double) (by decide) (by decide)))).other W26 (Or.inr (slot_ne (Or.inl (hw _ (List.mem_of_getElem? (i := 32) rfl))) (Or.inl (hw _ (List.mem_of_getElem? (i := 28) rfl))) (by decide) (t := .long) (t' := .long) (by decide) (by decide)))), (Fw24.other W26 (Or.inr (slot_ne (Or.inl (hw _ (List.mem_of_getElem? (i := 47) rfl))) (Or.inl (hw _ (List.mem_of_getElem? (i := 28) rfl))) (by decide) (t := .double) (t' := .long) (by decide) (by decide)))), ((V13.other W24 ne_ta_o0).other W26 ne_ta_o0)⟩
def Q_rm6_0a (Z : State) (o0 : Addr) (q1 : Int64) (ta : Addr) (kt : ClassId) (rr st d B : Int64) (h0 : Heap) (n0 : Nat) (v : Option Value) (h : Heap) (L : List Loc) : Prop := v = none ∧ Fr n0 L ∧ Keep h0 h [o0, ta] ∧ Exa Z h o0 "com/example/dialtone/dialtone/workload/Workers$Sharing" ∧ Fld Z h o0 "com/example/dialtone/dialtone/workload/Workers$Sharing" "nanosPerStep" "[D" (.ref ta) ∧ Fld Z h o0 "com/example/dialtone/dialtone/workload/Workers$Sharing" "rounds" "J" (.long rr) ∧ Fld Z h o0 "com/example/dialtone/dialtone/workload/Workers$Sharing" "otherWay" "Z" (.int (0 : Int32)) ∧ Fld Z h o0 "com/example/dialtone/dialtone/workload/Workers$Sharing" "started" "J" (.long (0 : Int64)) ∧ Fld Z h o0 "com/example/dialtone/dialtone/workload/Workers$Sharing" "shared" "Z" (.int (0 : Int32)) ∧ Fld Z h o0 "com/example/dialtone/dialtone/workload/Workers$Sharing" "steps" "J" (.long (1 : Int64)) ∧ Fld Z h o0 "com/example/dialtone/dialtone/workload/Workers$Sharing" "sharedOverUnshared" "D" (.double (0 : UInt64)) ∧ Arv Z h ta kt .double (2 : Int32) [(.double (own_X st B (FP.l2d d) (FP.dadd (FP.l2d B) (FP.dmul (4593671619917905920 : UInt64) (FP.dsub (FP.l2d d) (FP.l2d B)))))), (.double (FP.l2d (0 : Int64)))] (.double (0 : UInt64))
set_option maxRecDepth 65536 in
set_option maxHeartbeats 40000000 in
theorem rm6_0a (l : Launch) (Z : State) (a0 : Array Value) (hw : ∀ d ∈ tables_1, d.before a0 Z = true) (ws : List Jvm.Cond) (o0 : Addr) (q1 : Int64) (ta : Addr) (kt : ClassId) (rr st d B : Int64) (h0 : Heap) (n0 : Nat) (Z0 : n0 ≤ h0.size) (E0 : Exa Z h0 o0 "com/example/dialtone/dialtone/workload/Workers$Sharing") (g_o0 : n0 ≤ o0) (g_ta : n0 ≤ ta) (ne_ta_o0 : ta ≠ o0) (P_nanosPerStep : Fld Z h0 o0 "com/example/dialtone/dialtone/workload/Workers$Sharing" "nanosPerStep" "[D" (.ref ta)) (P_rounds : Fld Z h0 o0 "com/example/dialtone/dialtone/workload/Workers$Sharing" "rounds" "J" (.long rr)) (P_otherWay : Fld Z h0 o0 "com/example/dialtone/dialtone/workload/Workers$Sharing" "otherWay" "Z" (.int (0 : Int32))) (P_started : Fld Z h0 o0 "com/example/dialtone/dialtone/workload/Workers$Sharing" "started" "J" (.long st)) (P_shared : Fld Z h0 o0 "com/example/dialtone/dialtone/workload/Workers$Sharing" "shared" "Z" (.int (0 : Int32))) (P_steps : Fld Z h0 o0 "com/example/dialtone/dialtone/workload/Workers$Sharing" "steps" "J" (.long (1 : Int64))) (P_sharedOverUnshared : Fld Z h0 o0 "com/example/dialtone/dialtone/workload/Workers$Sharing" "sharedOverUnshared" "D" (.double (0 : UInt64))) (VT : Arv Z h0 ta kt .double (2 : Int32) [(.double (FP.l2d B)), (.double (FP.l2d (0 : Int64)))] (.double (0 : UInt64))) (hd : q1 - st = d) (cd : own_ct d) (cB : own_ct B) :
    MetFree l (⟨"com/example/dialtone/dialtone/workload/Workers$Sharing", "ended", "(J)V"⟩ : MethodName) (head1 (Jvm.Cond.code (⟨"com/example/dialtone/dialtone/workload/Workers$Sharing", "ended", "(J)V"⟩ : MethodName) prog_268_method_5_code 8 none :: ws) ({ frames := 1, cells := 0, slots := 0, locals := 20 } : Room)) (fun a U => a = #[(.ref o0), (.long q1)] ∧ Z.Warmed39 U.vm ∧ U.heap = h0) (fun _ _ _ _ _ => True) (fun _ U o U' => ∃ v L, o = .returned v ∧ Q_rm6_0a Z o0 q1 ta kt rr st d B h0 n0 v U'.heap L ∧ FrameEnd U o U' L ({ frames := 1, cells := 0, slots := 0, locals := 20 } : Room).cells ({ frames := 1, cells := 0, slots := 0, locals := 20 } : Room).slots) := by
  refine MetFree.of_bodySF (plainFor_of_name pn_com_example_dialtone_dialtone_workload_Workers_Sharing) hisR ?_
  intro p e s m args below meth c s₁ Bd hml0 hP hK
  obtain ⟨rfl, hZ, hh⟩ := hP
  have hx := Bd.exec
  have hby := Bd.bytes
  have hlk := BodyLoose.notSynchronized Bd
  have hrt := Bd.returns
  have hml : c.maxLocals = 8 := hml0
  have hown : s.vm.findClass "com/example/dialtone/dialtone/workload/Workers$Sharing" = some m.cls := findClass_of_methodNamed Bd.named
  have hnm := (name_of_methodNamed Bd.named Bd.method).1
  have X0 : Stand p l e ({ frames := 1, cells := 0, slots := 0, locals := 20 } : Room) s m #[(.ref o0), (.long q1)] below meth c s₁ [] 0 0 := Stand.of_body Bd
  have e0 : s₁.heap = h0 := by rw [← hh, Bd.state]; rfl
  have N0 := Fr.nil n0
  have K0 : Keep h0 h0 [o0, ta] := Keep.refl h0 _
  show Runs p e below (QE s (Q_rm6_0a Z o0 q1 ta kt rr st d B h0 n0) ({ frames := 1, cells := 0, slots := 0, locals := 20 } : Room).cells ({ frames := 1, cells := 0, slots := 0, locals := 20 } : Room).slots) (s₁.setTop (entryFrame m #[(.ref o0), (.long q1)] 8))
  rw [ef_6_6 m o0 q1]
  refine Runs.by (fun _ hr => XS.aloadN X0.here hx rfl (hb hby d6_0) rfl rfl hr) ?_
  show Runs p e below _ (s₁.setTop (mkF m 1 #[.val (.ref o0), .val (.long q1), .second, .unset, .unset, .unset, .unset, .unset] [(.ref o0)]))
  obtain ⟨T1, X1, e1, st1⟩ := getF X0 hx hZ hown (host := "") (Or.inl (hw _ (List.mem_of_getElem? (i := 27) rfl))) Via.refl e0 P_started (g := (mkF m 1 #[.val (.ref o0), .val (.long q1), .second, .unset, .unset, .unset, .unset, .unset] [(.ref o0)])) rfl rfl (hb hby d6_1)
  refine Runs.by st1 ?_
  refine Runs.by (fun _ hr => XS.lconst X1.here hx rfl (hb hby d6_4) hr) ?_
  refine Runs.by (fun _ hr => XS.lcmp X1.here hx rfl (hb hby d6_5) rfl hr) ?_
  show Runs p e below _ (T1.setTop (mkF m 6 #[.val (.ref o0), .val (.long q1), .second, .unset, .unset, .unset, .unset, .unset] [(.int (lcmpW st (0 : Int64)))]))
  by_cases hc6 : (lcmpW st (0 : Int64)) = (0 : Int32)
  · -- pc 6: (lcmpW st (0 : Int64)) = (0 : Int32)
    refine Runs.by (fun _ hr => XS.ifYes X1.here hx rfl (pc0 := 6) (pc' := 166) rfl (hb hby d6_6) rfl ((if0 _ _).trans (teq hc6).1) (by decide) (by decide) hr) ?_
    refine Runs.by (fun _ hr => XS.aloadN X1.here hx rfl (hb hby d6_166) rfl rfl hr) ?_
    refine Runs.by (fun _ hr => XS.lconst X1.here hx rfl (hb hby d6_167) hr) ?_
    show Runs p e below _ (T1.setTop (mkF m 168 #[.val (.ref o0), .val (.long q1), .second, .unset, .unset, .unset, .unset, .unset] [(.long (0 : Int64)), (.ref o0)]))
    obtain ⟨T2, h2, X2, e2, W2, st2⟩ := putF X1 hx hZ hown (host := "") (Or.inl (hw _ (List.mem_of_getElem? (i := 27) rfl))) Via.refl e1 P_started E0 (Or.inl (hw _ (List.mem_of_getElem? (i := 28) rfl))) (hw _ (List.mem_of_getElem? (i := 2) rfl)) (ty := .long) (by decide) rfl rfl (g := (mkF m 168 #[.val (.ref o0), .val (.long q1), .second, .unset, .unset, .unset, .unset, .unset] [(.long (0 : Int64)), (.ref o0)])) rfl rfl (hb hby d6_168)
    have Fw2 := P_started.same W2
    have K3 : Keep h0 h2 [o0, ta] := K0.wr W2 (Or.inl (List.mem_of_getElem? (i := 0) rfl))
    have N2 := Fr.snoc X2 N0 g_o0
    refine Runs.by st2 ?_
    show Runs p e below _ (T2.setTop (mkF m 171 #[.val (.ref o0), .val (.long q1), .second, .unset, .unset, .unset, .unset, .unset] []))
    refine Runs.retV X2 hx hrt hlk (hb hby d6_171) (by decide) (by decide) ?_
    rw [e2]
    unfold Q_rm6_0a
    have hst : st = 0 := own_lcz.mp hc6
    rw [own_X, if_pos hst]
    exact ⟨rfl, N2, K3, (E0.wr W2), (P_nanosPerStep.other W2 (Or.inr (slot_ne (Or.inr (hw _ (List.mem_of_getElem? (i := 12) rfl))) (Or.inl (hw _ (List.mem_of_getElem? (i := 28) rfl))) (by decide) (t := (.array .double)) (t' := .long) (by decide) (by decide)))), (P_rounds.other W2 (Or.inr (slot_ne (Or.inl (hw _ (List.mem_of_getElem? (i := 19) rfl))) (Or.inl (hw _ (List.mem_of_getElem? (i := 28) rfl))) (by decide) (t := .long) (t' := .long) (by decide) (by decide)))), (P_otherWay.other W2 (Or.inr (slot_ne (Or.inl (hw _ (List.mem_of_getElem? (i := 21) rfl))) (Or.inl (hw _ (List.mem_of_getElem? (i := 28) rfl))) (by decide) (t := .boolean) (t' := .long) (by decide) (by decide)))), Fw2, (P_shared.other W2 (Or.inr (slot_ne (Or.inl (hw _ (List.mem_of_getElem? (i := 30) rfl))) (Or.inl (hw _ (List.mem_of_getElem? (i := 28) rfl))) (by decide) (t := .boolean) (t' := .long) (by decide) (by decide)))), (P_steps.other W2 (Or.inr (slot_ne (Or.inl (hw _ (List.mem_of_getElem? (i := 32) rfl))) (Or.inl (hw _ (List.mem_of_getElem? (i := 28) rfl))) (by decide) (t := .long) (t' := .long) (by decide) (by decide)))), (P_sharedOverUnshared.other W2 (Or.inr (slot_ne (Or.inl (hw _ (List.mem_of_getElem? (i := 47) rfl))) (Or.inl (hw _ (List.mem_of_getElem? (i := 28) rfl))) (by decide) (t := .double) (t' := .long) (by decide) (by decide)))), (VT.other W2 ne_ta_o0)⟩
  · -- pc 6: not (lcmpW st (0 : Int64)) = (0 : Int32)
    refine Runs.by (fun _ hr => XS.ifNo X1.here hx rfl (hb hby d6_6) rfl ((if0 _ _).trans (feq hc6).1) hr) ?_
    refine Runs.by (fun _ hr => XS.aloadN X1.here hx rfl (hb hby d6_9) rfl rfl hr) ?_
    show Runs p e below _ (T1.setTop (mkF m 10 #[.val (.ref o0), .val (.long q1), .second, .unset, .unset, .unset, .unset, .unset] [(.ref o0)]))
    obtain ⟨T4, X4, e4, st4⟩ := getF X1 hx hZ hown (host := "") (Or.inl (hw _ (List.mem_of_getElem? (i := 31) rfl))) Via.refl e1 P_steps (g := (mkF m 10 #[.val (.ref o0), .val (.long q1), .second, .unset, .unset, .unset, .unset, .unset] [(.ref o0)])) rfl rfl (hb hby d6_10)
    refine Runs.by st4 ?_
    refine Runs.by (fun _ hr => XS.lconst X4.here hx rfl (hb hby d6_13) hr) ?_
    refine Runs.by (fun _ hr => XS.lcmp X4.here hx rfl (hb hby d6_14) rfl hr) ?_
    show Runs p e below _ (T4.setTop (mkF m 15 #[.val (.ref o0), .val (.long q1), .second, .unset, .unset, .unset, .unset, .unset] [(.int (lcmpW (1 : Int64) (0 : Int64)))]))
    have hc15 : (0 : Int32) < (lcmpW (1 : Int64) (0 : Int64)) := (by decide)
    refine Runs.by (fun _ hr => XS.ifNo X4.here hx rfl (hb hby d6_15) rfl ((if0 _ _).trans (tlt hc15).2.2.2) hr) ?_
    refine Runs.by (fun _ hr => XS.lloadN X4.here hx rfl (hb hby d6_18) rfl  hr) ?_
    refine Runs.by (fun _ hr => XS.aloadN X4.here hx rfl (hb hby d6_19) rfl rfl hr) ?_
    show Runs p e below _ (T4.setTop (mkF m 20 #[.val (.ref o0), .val (.long q1), .second, .unset, .unset, .unset, .unset, .unset] [(.ref o0), (.long q1)]))
    obtain ⟨T5, X5, e5, st5⟩ := getF X4 hx hZ hown (host := "") (Or.inl (hw _ (List.mem_of_getElem? (i := 27) rfl))) Via.refl e4 P_started (g := (mkF m 20 #[.val (.ref o0), .val (.long q1), .second, .unset, .unset, .unset, .unset, .unset] [(.ref o0), (.long q1)])) rfl rfl (hb hby d6_20)
    refine Runs.by st5 ?_
    show Runs p e below _ (T5.setTop (mkF m 23 #[.val (.ref o0), .val (.long q1), .second, .unset, .unset, .unset, .unset, .unset] [(.long st), (.long q1)]))
    refine Runs.by (fun _ hr => XS.lsub X5.here hx rfl (hb hby d6_23) rfl hr) ?_
    show Runs p e below _ (T5.setTop (mkF m 24 #[.val (.ref o0), .val (.long q1), .second, .unset, .unset, .unset, .unset, .unset] [(.long (q1 - st))]))
    refine Runs.by (fun _ hr => XS.l2dS X5.here hx rfl (hb hby d6_24) rfl rfl hr) ?_
    refine Runs.by (fun _ hr => XS.aloadN X5.here hx rfl (hb hby d6_25) rfl rfl hr) ?_
    show Runs p e below _ (T5.setTop (mkF m 26 #[.val (.ref o0), .val (.long q1), .second, .unset, .unset, .unset, .unset, .unset] [(.ref o0), (.double (FP.l2d (q1 - st)))]))
    obtain ⟨T6, X6, e6, st6⟩ := getF X5 hx hZ hown (host := "") (Or.inl (hw _ (List.mem_of_getElem? (i := 31) rfl))) Via.refl e5 P_steps (g := (mkF m 26 #[.val (.ref o0), .val (.long q1), .second, .unset, .unset, .unset, .unset, .unset] [(.ref o0), (.double (FP.l2d (q1 - st)))])) rfl rfl (hb hby d6_26)
    refine Runs.by st6 ?_
    show Runs p e below _ (T6.setTop (mkF m 29 #[.val (.ref o0), .val (.long q1), .second, .unset, .unset, .unset, .unset, .unset] [(.long (1 : Int64)), (.double (FP.l2d (q1 - st)))]))
    refine Runs.by (fun _ hr => XS.l2dS X6.here hx rfl (hb hby d6_29) rfl rfl hr) ?_
    show Runs p e below _ (T6.setTop (mkF m 30 #[.val (.ref o0), .val (.long q1), .second, .unset, .unset, .unset, .unset, .unset] [(.double (FP.l2d (1 : Int64))), (.double (FP.l2d (q1 - st)))]))
    refine Runs.by (fun _ hr => XS.ddivS X6.here hx rfl (hb hby d6_30) rfl (own_nn1 _) rfl hr) ?_
    rw [own_ddiv1, hd]
    refine Runs.by (fun _ hr => XS.dstoreN X6.here hx rfl (hb hby d6_31) rfl (l' := #[.val (.ref o0), .val (.long q1), .second, .val (.double (FP.l2d d)), .second, .unset, .unset, .unset]) rfl hr) ?_
    refine Runs.by (fun _ hr => XS.aloadN X6.here hx rfl (hb hby d6_32) rfl rfl hr) ?_
    show Runs p e below _ (T6.setTop (mkF m 33 #[.val (.ref o0), .val (.long q1), .second, .val (.double (FP.l2d d)), .second, .unset, .unset, .unset] [(.ref o0)]))
    obtain ⟨T7, X7, e7, st7⟩ := getF X6 hx hZ hown (host := "") (Or.inl (hw _ (List.mem_of_getElem? (i := 29) rfl))) Via.refl e6 P_shared (g := (mkF m 33 #[.val (.ref o0), .val (.long q1), .second, .val (.double (FP.l2d d)), .second, .unset, .unset, .unset] [(.ref o0)])) rfl rfl (hb hby d6_33)
    refine Runs.by st7 ?_
    have hc36 : (0 : Int32) = (0 : Int32) := (by decide)
    refine Runs.by (fun _ hr => XS.ifYes X7.here hx rfl (pc0 := 36) (pc' := 43) rfl (hb hby d6_36) rfl ((if0 _ _).trans (teq hc36).1) (by decide) (by decide) hr) ?_
    refine Runs.by (fun _ hr => XS.iconst X7.here hx rfl (hb hby d6_43) hr) ?_
    show Runs p e below _ (T7.setTop (mkF m 44 #[.val (.ref o0), .val (.long q1), .second, .val (.double (FP.l2d d)), .second, .unset, .unset, .unset] [(.int (0 : Int32))]))
    refine Runs.by (fun _ hr => XS.istore X7.here hx rfl (hb hby d6_44) rfl (l' := #[.val (.ref o0), .val (.long q1), .second, .val (.double (FP.l2d d)), .second, .val (.int (0 : Int32)), .unset, .unset]) rfl hr) ?_
    refine Runs.by (fun _ hr => XS.aloadN X7.here hx rfl (hb hby d6_46) rfl rfl hr) ?_
    show Runs p e below _ (T7.setTop (mkF m 47 #[.val (.ref o0), .val (.long q1), .second, .val (.double (FP.l2d d)), .second, .val (.int (0 : Int32)), .unset, .unset] [(.ref o0)]))
    obtain ⟨T8, X8, e8, st8⟩ := getF X7 hx hZ hown (host := "") (Or.inl (hw _ (List.mem_of_getElem? (i := 20) rfl))) Via.refl e7 P_otherWay (g := (mkF m 47 #[.val (.ref o0), .val (.long q1), .second, .val (.double (FP.l2d d)), .second, .val (.int (0 : Int32)), .unset, .unset] [(.ref o0)])) rfl rfl (hb hby d6_47)
    refine Runs.by st8 ?_
    have hc50 : (0 : Int32) = (0 : Int32) := (by decide)
    refine Runs.by (fun _ hr => XS.ifYes X8.here hx rfl (pc0 := 50) (pc' := 108) rfl (hb hby d6_50) rfl ((if0 _ _).trans (teq hc50).1) (by decide) (by decide) hr) ?_
    refine Runs.by (fun _ hr => XS.aloadN X8.here hx rfl (hb hby d6_108) rfl rfl hr) ?_
    show Runs p e below _ (T8.setTop (mkF m 109 #[.val (.ref o0), .val (.long q1), .second, .val (.double (FP.l2d d)), .second, .val (.int (0 : Int32)), .unset, .unset] [(.ref o0)]))
    obtain ⟨T9, X9, e9, st9⟩ := getF X8 hx hZ hown (host := "") (Or.inl (hw _ (List.mem_of_getElem? (i := 11) rfl))) Via.refl e8 P_nanosPerStep (g := (mkF m 109 #[.val (.ref o0), .val (.long q1), .second, .val (.double (FP.l2d d)), .second, .val (.int (0 : Int32)), .unset, .unset] [(.ref o0)])) rfl rfl (hb hby d6_109)
    refine Runs.by st9 ?_
    refine Runs.by (fun _ hr => XS.iload X9.here hx rfl (hb hby d6_112) rfl  hr) ?_
    refine Runs.by (fun _ hr => XS.aloadN X9.here hx rfl (hb hby d6_114) rfl rfl hr) ?_
    show Runs p e below _ (T9.setTop (mkF m 115 #[.val (.ref o0), .val (.long q1), .second, .val (.double (FP.l2d d)), .second, .val (.int (0 : Int32)), .unset, .unset] [(.ref o0), (.int (0 : Int32)), (.ref ta)]))
    obtain ⟨T10, X10, e10, st10⟩ := getF X9 hx hZ hown (host := "") (Or.inl (hw _ (List.mem_of_getElem? (i := 11) rfl))) Via.refl e9 P_nanosPerStep (g := (mkF m 115 #[.val (.ref o0), .val (.long q1), .second, .val (.double (FP.l2d d)), .second, .val (.int (0 : Int32)), .unset, .unset] [(.ref o0), (.int (0 : Int32)), (.ref ta)])) rfl rfl (hb hby d6_115)
    refine Runs.by st10 ?_
    refine Runs.by (fun _ hr => XS.iload X10.here hx rfl (hb hby d6_118) rfl  hr) ?_
    show Runs p e below _ (T10.setTop (mkF m 120 #[.val (.ref o0), .val (.long q1), .second, .val (.double (FP.l2d d)), .second, .val (.int (0 : Int32)), .unset, .unset] [(.int (0 : Int32)), (.ref ta), (.int (0 : Int32)), (.ref ta)]))
    obtain ⟨cl11, Ar11, -, S11, N11', H11, -⟩ := id VT
    have hin11 : ¬ ((0 : Int32) < 0 ∨ cl11.slots.size ≤ ((0 : Int32)).toNatClampNeg) := inb_of S11 ⟨by decide, by decide⟩
    have hat11 := H11.at hin11 (v := (.double (FP.l2d B))) rfl
    refine Runs.by (fun t hr => X10.daload hx (j := (0 : Int32)) (v := (.double (FP.l2d B))) (by rw [e10]; exact Ar11.1) (State.isArrayOf_alike hZ.alike Ar11.2.1) Ar11.2.2 hin11 hat11 (g := (mkF m 120 #[.val (.ref o0), .val (.long q1), .second, .val (.double (FP.l2d d)), .second, .val (.int (0 : Int32)), .unset, .unset] [(.int (0 : Int32)), (.ref ta), (.int (0 : Int32)), (.ref ta)])) rfl rfl (hb hby d6_120) t hr) ?_
    refine Runs.by (fun _ hr => XS.dloadN X10.here hx rfl (hb hby d6_121) rfl  hr) ?_
    by_cases hB : B = 0
    · skip
      show Runs p e below _ (T10.setTop (mkF m 122 #[.val (.ref o0), .val (.long q1), .second, .val (.double (FP.l2d d)), .second, .val (.int (0 : Int32)), .unset, .unset] [(.double (FP.l2d d)), (.double (FP.l2d B)), (.int (0 : Int32)), (.ref ta)]))
      obtain ⟨_, _, ⟨T12, L12, k12, n12⟩, -, X12, ⟨Lc12, hQ12, l12, y12, z12⟩, st12⟩ := Jvm.LawKit.callS X10 hx (y := (⟨"com/example/dialtone/dialtone/workload/Workers$Sharing", "average", "(DD)D"⟩ : MethodName)) hown (mvT hZ (hw _ (List.mem_of_getElem? (i := 43) rfl))) (mvT hZ (hw _ (List.mem_of_getElem? (i := 44) rfl))) (mvT hZ (hw _ (List.mem_of_getElem? (i := 3) rfl))) (mvT hZ (hw _ (List.mem_of_getElem? (i := 45) rfl))) (by decide) (backOf (W := 2) (rm7a l Z a0 hw [] (FP.l2d B) (FP.l2d d)  h0 n0 (Nat.le_trans Z0 K0.1) (by rw [hB]; exact own_c00)) hZ (hw _ (List.mem_of_getElem? (i := 45) rfl)) (hw _ (List.mem_of_getElem? (i := 3) rfl)) (by decide) (by decide)) (g := (mkF m 122 #[.val (.ref o0), .val (.long q1), .second, .val (.double (FP.l2d d)), .second, .val (.int (0 : Int32)), .unset, .unset] [(.double (FP.l2d d)), (.double (FP.l2d B)), (.int (0 : Int32)), (.ref ta)])) rfl (by rw [hml]; rfl) (argsL := [(.double (FP.l2d B)), (.double (FP.l2d d))]) (rest := [(.int (0 : Int32)), (.ref ta)]) (lenOf pd_0 rfl) rfl (by show 2 * 0 + _ ≤ _; exact Nat.le_of_eq rfl) (hb hby d6_122) (fun _ _ => ⟨rfl, e10, (by decide : 0 + 0 ≤ _), (by decide : 0 + 0 ≤ _)⟩)
      dsimp only [Pt.U, Pt.locs, Pt.cells, Pt.slots] at X12 l12 y12 z12 st12 hQ12
      subst l12 y12 z12
      obtain ⟨rfl, Nq12, eq12⟩ := hQ12
      have N12 := Fr.app N0 Nq12
      refine Runs.by (fun t hr => st12 t hr) ?_
      show Runs p e below _ (T12.setTop (mkF m 125 #[.val (.ref o0), .val (.long q1), .second, .val (.double (FP.l2d d)), .second, .val (.int (0 : Int32)), .unset, .unset] [(.double (FP.l2d d)), (.int (0 : Int32)), (.ref ta)]))
      obtain ⟨cl13, Ar13, q13, S13, N13', H13, G13⟩ := id VT
      have hin13 : ¬ ((0 : Int32) < 0 ∨ cl13.slots.size ≤ ((0 : Int32)).toNatClampNeg) := inb_of S13 ⟨by decide, by decide⟩
      obtain ⟨T13, h13, X13, e13, W13, st13⟩ := stD X12 hx hZ eq12 Ar13 (j := (0 : Int32)) hin13 (g := (mkF m 125 #[.val (.ref o0), .val (.long q1), .second, .val (.double (FP.l2d d)), .second, .val (.int (0 : Int32)), .unset, .unset] [(.double (FP.l2d d)), (.int (0 : Int32)), (.ref ta)])) rfl rfl (hb hby d6_125)
      have V13 : Arv Z h13 ta kt .double (2 : Int32) [(.double (FP.l2d d)), (.double (FP.l2d (0 : Int64)))] (.double (0 : UInt64)) := Arv.set Ar13 q13 S13 N13' H13 G13 rfl W13 (0) rfl (Nat.le_of_ble_eq_true rfl)
      have K14 : Keep h0 h13 [o0, ta] := K0.wr W13 (Or.inl (List.mem_of_getElem? (i := 1) rfl))
      have N13 := Fr.snoc X13 N12 g_ta
      refine Runs.by st13 ?_
      refine Runs.by (fun _ hr => XS.aloadN X13.here hx rfl (hb hby d6_126) rfl rfl hr) ?_
      show Runs p e below _ (T13.setTop (mkF m 127 #[.val (.ref o0), .val (.long q1), .second, .val (.double (FP.l2d d)), .second, .val (.int (0 : Int32)), .unset, .unset] [(.ref o0)]))
      obtain ⟨T15, X15, e15, st15⟩ := getF X13 hx hZ hown (host := "") (Or.inl (hw _ (List.mem_of_getElem? (i := 46) rfl))) Via.refl e13 (P_sharedOverUnshared.other W13 (Or.inl (Ne.symm ne_ta_o0))) (g := (mkF m 127 #[.val (.ref o0), .val (.long q1), .second, .val (.double (FP.l2d d)), .second, .val (.int (0 : Int32)), .unset, .unset] [(.ref o0)])) rfl rfl (hb hby d6_127)
      refine Runs.by st15 ?_
      refine Runs.by (fun _ hr => XS.dconst0 X15.here hx rfl (hb hby d6_130) rfl hr) ?_
      show Runs p e below _ (T15.setTop (mkF m 131 #[.val (.ref o0), .val (.long q1), .second, .val (.double (FP.l2d d)), .second, .val (.int (0 : Int32)), .unset, .unset] [(.double FP.dconst0), (.double (0 : UInt64))]))
      refine Runs.by (fun _ hr => XS.dcmpS X15.here hx rfl (hb hby d6_131) rfl rfl hr) ?_
      have hc132 : (cmpValue (FP.dcmp (0 : UInt64) FP.dconst0) .l) = (0 : Int32) := own_cz
      refine Runs.by (fun _ hr => XS.ifNo X15.here hx rfl (hb hby d6_132) rfl ((if0 _ _).trans (teq hc132).2) hr) ?_
      refine Runs.by (fun _ hr => XS.aloadN X15.here hx rfl (hb hby d6_135) rfl rfl hr) ?_
      show Runs p e below _ (T15.setTop (mkF m 136 #[.val (.ref o0), .val (.long q1), .second, .val (.double (FP.l2d d)), .second, .val (.int (0 : Int32)), .unset, .unset] [(.ref o0)]))
      obtain ⟨T16, X16, e16, st16⟩ := getF X15 hx hZ hown (host := "") (Or.inl (hw _ (List.mem_of_getElem? (i := 11) rfl))) Via.refl e15 (P_nanosPerStep.other W13 (Or.inl (Ne.symm ne_ta_o0))) (g := (mkF m 136 #[.val (.ref o0), .val (.long q1), .second, .val (.double (FP.l2d d)), .second, .val (.int (0 : Int32)), .unset, .unset] [(.ref o0)])) rfl rfl (hb hby d6_136)
      refine Runs.by st16 ?_
      refine Runs.by (fun _ hr => XS.iconst X16.here hx rfl (hb hby d6_139) hr) ?_
      refine Runs.by (fun _ hr => XS.iload X16.here hx rfl (hb hby d6_140) rfl  hr) ?_
      show Runs p e below _ (T16.setTop (mkF m 142 #[.val (.ref o0), .val (.long q1), .second, .val (.double (FP.l2d d)), .second, .val (.int (0 : Int32)), .unset, .unset] [(.int (0 : Int32)), (.int (1 : Int32)), (.ref ta)]))
      refine Runs.by (fun _ hr => XS.isub X16.here hx rfl (hb hby d6_142) rfl hr) ?_
      show Runs p e below _ (T16.setTop (mkF m 143 #[.val (.ref o0), .val (.long q1), .second, .val (.double (FP.l2d d)), .second, .val (.int (0 : Int32)), .unset, .unset] [(.int (1 : Int32)), (.ref ta)]))
      obtain ⟨cl17, Ar17, -, S17, N17', H17, -⟩ := id V13
      have hin17 : ¬ ((1 : Int32) < 0 ∨ cl17.slots.size ≤ ((1 : Int32)).toNatClampNeg) := inb_of S17 ⟨by decide, by decide⟩
      have hat17 := H17.at hin17 (v := (.double (FP.l2d (0 : Int64)))) rfl
      refine Runs.by (fun t hr => X16.daload hx (j := (1 : Int32)) (v := (.double (FP.l2d (0 : Int64)))) (by rw [e16]; exact Ar17.1) (State.isArrayOf_alike hZ.alike Ar17.2.1) Ar17.2.2 hin17 hat17 (g := (mkF m 143 #[.val (.ref o0), .val (.long q1), .second, .val (.double (FP.l2d d)), .second, .val (.int (0 : Int32)), .unset, .unset] [(.int (1 : Int32)), (.ref ta)])) rfl rfl (hb hby d6_143) t hr) ?_
      refine Runs.by (fun _ hr => XS.dconst0 X16.here hx rfl (hb hby d6_144) rfl hr) ?_
      show Runs p e below _ (T16.setTop (mkF m 145 #[.val (.ref o0), .val (.long q1), .second, .val (.double (FP.l2d d)), .second, .val (.int (0 : Int32)), .unset, .unset] [(.double FP.dconst0), (.double (FP.l2d (0 : Int64)))]))
      refine Runs.by (fun _ hr => XS.dcmpS X16.here hx rfl (hb hby d6_145) rfl rfl hr) ?_
      have hc146 : (cmpValue (FP.dcmp (FP.l2d (0 : Int64)) FP.dconst0) .l) = (0 : Int32) := own_c00
      refine Runs.by (fun _ hr => XS.ifYes X16.here hx rfl (pc0 := 146) (pc' := 166) rfl (hb hby d6_146) rfl ((if0 _ _).trans (teq hc146).1) (by decide) (by decide) hr) ?_
      refine Runs.by (fun _ hr => XS.aloadN X16.here hx rfl (hb hby d6_166) rfl rfl hr) ?_
      show Runs p e below _ (T16.setTop (mkF m 167 #[.val (.ref o0), .val (.long q1), .second, .val (.double (FP.l2d d)), .second, .val (.int (0 : Int32)), .unset, .unset] [(.ref o0)]))
      refine Runs.by (fun _ hr => XS.lconst X16.here hx rfl (hb hby d6_167) hr) ?_
      show Runs p e below _ (T16.setTop (mkF m 168 #[.val (.ref o0), .val (.long q1), .second, .val (.double (FP.l2d d)), .second, .val (.int (0 : Int32)), .unset, .unset] [(.long (0 : Int64)), (.ref o0)]))
      obtain ⟨T18, h18, X18, e18, W18, st18⟩ := putF X16 hx hZ hown (host := "") (Or.inl (hw _ (List.mem_of_getElem? (i := 27) rfl))) Via.refl e16 (P_started.other W13 (Or.inl (Ne.symm ne_ta_o0))) (E0.wr W13) (Or.inl (hw _ (List.mem_of_getElem? (i := 28) rfl))) (hw _ (List.mem_of_getElem? (i := 2) rfl)) (ty := .long) (by decide) rfl rfl (g := (mkF m 168 #[.val (.ref o0), .val (.long q1), .second, .val (.double (FP.l2d d)), .second, .val (.int (0 : Int32)), .unset, .unset] [(.long (0 : Int64)), (.ref o0)])) rfl rfl (hb hby d6_168)
      have Fw18 := (P_started.other W13 (Or.inl (Ne.symm ne_ta_o0))).same W18
      have K19 : Keep h0 h18 [o0, ta] := K14.wr W18 (Or.inl (List.mem_of_getElem? (i := 0) rfl))
      have N18 := Fr.snoc X18 N13 g_o0
      refine Runs.by st18 ?_
      show Runs p e below _ (T18.setTop (mkF m 171 #[.val (.ref o0), .val (.long q1), .second, .val (.double (FP.l2d d)), .second, .val (.int (0 : Int32)), .unset, .unset] []))
      refine Runs.retV X18 hx hrt hlk (hb hby d6_171) (by decide) (by decide) ?_
      rw [e18]
      unfold Q_rm6_0a
      have hst : ¬ st = 0 := fun z => hc6 (own_lcz.mpr z)
      rw [own_X, if_neg hst, if_pos hB]
      exact ⟨rfl, N18, K19, ((E0.wr W13).wr W18), ((P_nanosPerStep.other W13 (Or.inl (Ne.symm ne_ta_o0))).other W18 (Or.inr (slot_ne (Or.inr (hw _ (List.mem_of_getElem? (i := 12) rfl))) (Or.inl (hw _ (List.mem_of_getElem? (i := 28) rfl))) (by decide) (t := (.array .double)) (t' := .long) (by decide) (by decide)))), ((P_rounds.other W13 (Or.inl (Ne.symm ne_ta_o0))).other W18 (Or.inr (slot_ne (Or.inl (hw _ (List.mem_of_getElem? (i := 19) rfl))) (Or.inl (hw _ (List.mem_of_getElem? (i := 28) rfl))) (by decide) (t := .long) (t' := .long) (by decide) (by decide)))), ((P_otherWay.other W13 (Or.inl (Ne.symm ne_ta_o0))).other W18 (Or.inr (slot_ne (Or.inl (hw _ (List.mem_of_getElem? (i := 21) rfl))) (Or.inl (hw _ (List.mem_of_getElem? (i := 28) rfl))) (by decide) (t := .boolean) (t' := .long) (by decide) (by decide)))), Fw18, ((P_shared.other W13 (Or.inl (Ne.symm ne_ta_o0))).other W18 (Or.inr (slot_ne (Or.inl (hw _ (List.mem_of_getElem? (i := 30) rfl))) (Or.inl (hw _ (List.mem_of_getElem? (i := 28) rfl))) (by decide) (t := .boolean) (t' := .long) (by decide) (by decide)))), ((P_steps.other W13 (Or.inl (Ne.symm ne_ta_o0))).other W18 (Or.inr (slot_ne (Or.inl (hw _ (List.mem_of_getElem? (i := 32) rfl))) (Or.inl (hw _ (List.mem_of_getElem? (i := 28) rfl))) (by decide) (t := .long) (t' := .long) (by decide) (by decide)))), ((P_sharedOverUnshared.other W13 (Or.inl (Ne.symm ne_ta_o0))).other W18 (Or.inr (slot_ne (Or.inl (hw _ (List.mem_of_getElem? (i := 47) rfl))) (Or.inl (hw _ (List.mem_of_getElem? (i := 28) rfl))) (by decide) (t := .double) (t' := .long) (by decide) (by decide)))), (V13.other W18 ne_ta_o0)⟩
    · skip
      show Runs p e below _ (T10.setTop (mkF m 122 #[.val (.ref o0), .val (.long q1), .second, .val (.double (FP.l2d d)), .second, .val (.int (0 : Int32)), .unset, .unset] [(.double (FP.l2d d)), (.double (FP.l2d B)), (.int (0 : Int32)), (.ref ta)]))
      obtain ⟨_, _, ⟨T20, L20, k20, n20⟩, -, X20, ⟨Lc20, hQ20, l20, y20, z20⟩, st20⟩ := Jvm.LawKit.callS X10 hx (y := (⟨"com/example/dialtone/dialtone/workload/Workers$Sharing", "average", "(DD)D"⟩ : MethodName)) hown (mvT hZ (hw _ (List.mem_of_getElem? (i := 43) rfl))) (mvT hZ (hw _ (List.mem_of_getElem? (i := 44) rfl))) (mvT hZ (hw _ (List.mem_of_getElem? (i := 3) rfl))) (mvT hZ (hw _ (List.mem_of_getElem? (i := 45) rfl))) (by decide) (backOf (W := 2) (rm7b l Z a0 hw [] (FP.l2d B) (FP.l2d d)  h0 n0 (Nat.le_trans Z0 K0.1) (own_av cB cd hB).1 (own_av cB cd hB).2.1 (own_av cB cd hB).2.2.1 (fun z => hB ((own_cA cB).mp z))) hZ (hw _ (List.mem_of_getElem? (i := 45) rfl)) (hw _ (List.mem_of_getElem? (i := 3) rfl)) (by decide) (by decide)) (g := (mkF m 122 #[.val (.ref o0), .val (.long q1), .second, .val (.double (FP.l2d d)), .second, .val (.int (0 : Int32)), .unset, .unset] [(.double (FP.l2d d)), (.double (FP.l2d B)), (.int (0 : Int32)), (.ref ta)])) rfl (by rw [hml]; rfl) (argsL := [(.double (FP.l2d B)), (.double (FP.l2d d))]) (rest := [(.int (0 : Int32)), (.ref ta)]) (lenOf pd_0 rfl) rfl (by show 2 * 0 + _ ≤ _; exact Nat.le_of_eq rfl) (hb hby d6_122) (fun _ _ => ⟨rfl, e10, (by decide : 0 + 0 ≤ _), (by decide : 0 + 0 ≤ _)⟩)
      dsimp only [Pt.U, Pt.locs, Pt.cells, Pt.slots] at X20 l20 y20 z20 st20 hQ20
      subst l20 y20 z20
      obtain ⟨rfl, Nq20, eq20⟩ := hQ20
      have N20 := Fr.app N0 Nq20
      refine Runs.by (fun t hr => st20 t hr) ?_
      show Runs p e below _ (T20.setTop (mkF m 125 #[.val (.ref o0), .val (.long q1), .second, .val (.double (FP.l2d d)), .second, .val (.int (0 : Int32)), .unset, .unset] [(.double (FP.dadd (FP.l2d B) (FP.dmul (4593671619917905920 : UInt64) (FP.dsub (FP.l2d d) (FP.l2d B))))), (.int (0 : Int32)), (.ref ta)]))
      obtain ⟨cl21, Ar21, q21, S21, N21', H21, G21⟩ := id VT
      have hin21 : ¬ ((0 : Int32) < 0 ∨ cl21.slots.size ≤ ((0 : Int32)).toNatClampNeg) := inb_of S21 ⟨by decide, by decide⟩
      obtain ⟨T21, h21, X21, e21, W21, st21⟩ := stD X20 hx hZ eq20 Ar21 (j := (0 : Int32)) hin21 (g := (mkF m 125 #[.val (.ref o0), .val (.long q1), .second, .val (.double (FP.l2d d)), .second, .val (.int (0 : Int32)), .unset, .unset] [(.double (FP.dadd (FP.l2d B) (FP.dmul (4593671619917905920 : UInt64) (FP.dsub (FP.l2d d) (FP.l2d B))))), (.int (0 : Int32)), (.ref ta)])) rfl rfl (hb hby d6_125)
      have V21 : Arv Z h21 ta kt .double (2 : Int32) [(.double (FP.dadd (FP.l2d B) (FP.dmul (4593671619917905920 : UInt64) (FP.dsub (FP.l2d d) (FP.l2d B))))), (.double (FP.l2d (0 : Int64)))] (.double (0 : UInt64)) := Arv.set Ar21 q21 S21 N21' H21 G21 rfl W21 (0) rfl (Nat.le_of_ble_eq_true rfl)
      have K22 : Keep h0 h21 [o0, ta] := K0.wr W21 (Or.inl (List.mem_of_getElem? (i := 1) rfl))
      have N21 := Fr.snoc X21 N20 g_ta
      refine Runs.by st21 ?_
      refine Runs.by (fun _ hr => XS.aloadN X21.here hx rfl (hb hby d6_126) rfl rfl hr) ?_
      show Runs p e below _ (T21.setTop (mkF m 127 #[.val (.ref o0), .val (.long q1), .second, .val (.double (FP.l2d d)), .second, .val (.int (0 : Int32)), .unset, .unset] [(.ref o0)]))
      obtain ⟨T23, X23, e23, st23⟩ := getF X21 hx hZ hown (host := "") (Or.inl (hw _ (List.mem_of_getElem? (i := 46) rfl))) Via.refl e21 (P_sharedOverUnshared.other W21 (Or.inl (Ne.symm ne_ta_o0))) (g := (mkF m 127 #[.val (.ref o0), .val (.long q1), .second, .val (.double (FP.l2d d)), .second, .val (.int (0 : Int32)), .unset, .unset] [(.ref o0)])) rfl rfl (hb hby d6_127)
      refine Runs.by st23 ?_
      refine Runs.by (fun _ hr => XS.dconst0 X23.here hx rfl (hb hby d6_130) rfl hr) ?_
      show Runs p e below _ (T23.setTop (mkF m 131 #[.val (.ref o0), .val (.long q1), .second, .val (.double (FP.l2d d)), .second, .val (.int (0 : Int32)), .unset, .unset] [(.double FP.dconst0), (.double (0 : UInt64))]))
      refine Runs.by (fun _ hr => XS.dcmpS X23.here hx rfl (hb hby d6_131) rfl rfl hr) ?_
      have hc132 : (cmpValue (FP.dcmp (0 : UInt64) FP.dconst0) .l) = (0 : Int32) := own_cz
      refine Runs.by (fun _ hr => XS.ifNo X23.here hx rfl (hb hby d6_132) rfl ((if0 _ _).trans (teq hc132).2) hr) ?_
      refine Runs.by (fun _ hr => XS.aloadN X23.here hx rfl (hb hby d6_135) rfl rfl hr) ?_
      show Runs p e below _ (T23.setTop (mkF m 136 #[.val (.ref o0), .val (.long q1), .second, .val (.double (FP.l2d d)), .second, .val (.int (0 : Int32)), .unset, .unset] [(.ref o0)]))
      obtain ⟨T24, X24, e24, st24⟩ := getF X23 hx hZ hown (host := "") (Or.inl (hw _ (List.mem_of_getElem? (i := 11) rfl))) Via.refl e23 (P_nanosPerStep.other W21 (Or.inl (Ne.symm ne_ta_o0))) (g := (mkF m 136 #[.val (.ref o0), .val (.long q1), .second, .val (.double (FP.l2d d)), .second, .val (.int (0 : Int32)), .unset, .unset] [(.ref o0)])) rfl rfl (hb hby d6_136)
      refine Runs.by st24 ?_
      refine Runs.by (fun _ hr => XS.iconst X24.here hx rfl (hb hby d6_139) hr) ?_
      refine Runs.by (fun _ hr => XS.iload X24.here hx rfl (hb hby d6_140) rfl  hr) ?_
      show Runs p e below _ (T24.setTop (mkF m 142 #[.val (.ref o0), .val (.long q1), .second, .val (.double (FP.l2d d)), .second, .val (.int (0 : Int32)), .unset, .unset] [(.int (0 : Int32)), (.int (1 : Int32)), (.ref ta)]))
      refine Runs.by (fun _ hr => XS.isub X24.here hx rfl (hb hby d6_142) rfl hr) ?_
      show Runs p e below _ (T24.setTop (mkF m 143 #[.val (.ref o0), .val (.long q1), .second, .val (.double (FP.l2d d)), .second, .val (.int (0 : Int32)), .unset, .unset] [(.int (1 : Int32)), (.ref ta)]))
      obtain ⟨cl25, Ar25, -, S25, N25', H25, -⟩ := id V21
      have hin25 : ¬ ((1 : Int32) < 0 ∨ cl25.slots.size ≤ ((1 : Int32)).toNatClampNeg) := inb_of S25 ⟨by decide, by decide⟩
      have hat25 := H25.at hin25 (v := (.double (FP.l2d (0 : Int64)))) rfl
      refine Runs.by (fun t hr => X24.daload hx (j := (1 : Int32)) (v := (.double (FP.l2d (0 : Int64)))) (by rw [e24]; exact Ar25.1) (State.isArrayOf_alike hZ.alike Ar25.2.1) Ar25.2.2 hin25 hat25 (g := (mkF m 143 #[.val (.ref o0), .val (.long q1), .second, .val (.double (FP.l2d d)), .second, .val (.int (0 : Int32)), .unset, .unset] [(.int (1 : Int32)), (.ref ta)])) rfl rfl (hb hby d6_143) t hr) ?_
      refine Runs.by (fun _ hr => XS.dconst0 X24.here hx rfl (hb hby d6_144) rfl hr) ?_
      show Runs p e below _ (T24.setTop (mkF m 145 #[.val (.ref o0), .val (.long q1), .second, .val (.double (FP.l2d d)), .second, .val (.int (0 : Int32)), .unset, .unset] [(.double FP.dconst0), (.double (FP.l2d (0 : Int64)))]))
      refine Runs.by (fun _ hr => XS.dcmpS X24.here hx rfl (hb hby d6_145) rfl rfl hr) ?_
      have hc146 : (cmpValue (FP.dcmp (FP.l2d (0 : Int64)) FP.dconst0) .l) = (0 : Int32) := own_c00
      refine Runs.by (fun _ hr => XS.ifYes X24.here hx rfl (pc0 := 146) (pc' := 166) rfl (hb hby d6_146) rfl ((if0 _ _).trans (teq hc146).1) (by decide) (by decide) hr) ?_
      refine Runs.by (fun _ hr => XS.aloadN X24.here hx rfl (hb hby d6_166) rfl rfl hr) ?_
      show Runs p e below _ (T24.setTop (mkF m 167 #[.val (.ref o0), .val (.long q1), .second, .val (.double (FP.l2d d)), .second, .val (.int (0 : Int32)), .unset, .unset] [(.ref o0)]))
      refine Runs.by (fun _ hr => XS.lconst X24.here hx rfl (hb hby d6_167) hr) ?_
      show Runs p e below _ (T24.setTop (mkF m 168 #[.val (.ref o0), .val (.long q1), .second, .val (.double (FP.l2d d)), .second, .val (.int (0 : Int32)), .unset, .unset] [(.long (0 : Int64)), (.ref o0)]))
      obtain ⟨T26, h26, X26, e26, W26, st26⟩ := putF X24 hx hZ hown (host := "") (Or.inl (hw _ (List.mem_of_getElem? (i := 27) rfl))) Via.refl e24 (P_started.other W21 (Or.inl (Ne.symm ne_ta_o0))) (E0.wr W21) (Or.inl (hw _ (List.mem_of_getElem? (i := 28) rfl))) (hw _ (List.mem_of_getElem? (i := 2) rfl)) (ty := .long) (by decide) rfl rfl (g := (mkF m 168 #[.val (.ref o0), .val (.long q1), .second, .val (.double (FP.l2d d)), .second, .val (.int (0 : Int32)), .unset, .unset] [(.long (0 : Int64)), (.ref o0)])) rfl rfl (hb hby d6_168)
      have Fw26 := (P_started.other W21 (Or.inl (Ne.symm ne_ta_o0))).same W26
      have K27 : Keep h0 h26 [o0, ta] := K22.wr W26 (Or.inl (List.mem_of_getElem? (i := 0) rfl))
      have N26 := Fr.snoc X26 N21 g_o0
      refine Runs.by st26 ?_
      show Runs p e below _ (T26.setTop (mkF m 171 #[.val (.ref o0), .val (.long q1), .second, .val (.double (FP.l2d d)), .second, .val (.int (0 : Int32)), .unset, .unset] []))
      refine Runs.retV X26 hx hrt hlk (hb hby d6_171) (by decide) (by decide) ?_
      rw [e26]
      unfold Q_rm6_0a
      have hst : ¬ st = 0 := fun z => hc6 (own_lcz.mpr z)
      rw [own_X, if_neg hst, if_neg hB]
      exact ⟨rfl, N26, K27, ((E0.wr W21).wr W26), ((P_nanosPerStep.other W21 (Or.inl (Ne.symm ne_ta_o0))).other W26 (Or.inr (slot_ne (Or.inr (hw _ (List.mem_of_getElem? (i := 12) rfl))) (Or.inl (hw _ (List.mem_of_getElem? (i := 28) rfl))) (by decide) (t := (.array .double)) (t' := .long) (by decide) (by decide)))), ((P_rounds.other W21 (Or.inl (Ne.symm ne_ta_o0))).other W26 (Or.inr (slot_ne (Or.inl (hw _ (List.mem_of_getElem? (i := 19) rfl))) (Or.inl (hw _ (List.mem_of_getElem? (i := 28) rfl))) (by decide) (t := .long) (t' := .long) (by decide) (by decide)))), ((P_otherWay.other W21 (Or.inl (Ne.symm ne_ta_o0))).other W26 (Or.inr (slot_ne (Or.inl (hw _ (List.mem_of_getElem? (i := 21) rfl))) (Or.inl (hw _ (List.mem_of_getElem? (i := 28) rfl))) (by decide) (t := .boolean) (t' := .long) (by decide) (by decide)))), Fw26, ((P_shared.other W21 (Or.inl (Ne.symm ne_ta_o0))).other W26 (Or.inr (slot_ne (Or.inl (hw _ (List.mem_of_getElem? (i := 30) rfl))) (Or.inl (hw _ (List.mem_of_getElem? (i := 28) rfl))) (by decide) (t := .boolean) (t' := .long) (by decide) (by decide)))), ((P_steps.other W21 (Or.inl (Ne.symm ne_ta_o0))).other W26 (Or.inr (slot_ne (Or.inl (hw _ (List.mem_of_getElem? (i := 32) rfl))) (Or.inl (hw _ (List.mem_of_getElem? (i := 28) rfl))) (by decide) (t := .long) (t' := .long) (by decide) (by decide)))), ((P_sharedOverUnshared.other W21 (Or.inl (Ne.symm ne_ta_o0))).other W26 (Or.inr (slot_ne (Or.inl (hw _ (List.mem_of_getElem? (i := 47) rfl))) (Or.inl (hw _ (List.mem_of_getElem? (i := 28) rfl))) (by decide) (t := .double) (t' := .long) (by decide) (by decide)))), (V21.other W26 ne_ta_o0)⟩
def Q_rm6_1z (Z : State) (o0 : Addr) (q1 : Int64) (ta : Addr) (kt : ClassId) (rr st d A : Int64) (h0 : Heap) (n0 : Nat) (v : Option Value) (h : Heap) (L : List Loc) : Prop := v = none ∧ Fr n0 L ∧ Keep h0 h [o0, ta] ∧ Exa Z h o0 "com/example/dialtone/dialtone/workload/Workers$Sharing" ∧ Fld Z h o0 "com/example/dialtone/dialtone/workload/Workers$Sharing" "nanosPerStep" "[D" (.ref ta) ∧ Fld Z h o0 "com/example/dialtone/dialtone/workload/Workers$Sharing" "rounds" "J" (.long rr) ∧ Fld Z h o0 "com/example/dialtone/dialtone/workload/Workers$Sharing" "otherWay" "Z" (.int (0 : Int32)) ∧ Fld Z h o0 "com/example/dialtone/dialtone/workload/Workers$Sharing" "started" "J" (.long (0 : Int64)) ∧ Fld Z h o0 "com/example/dialtone/dialtone/workload/Workers$Sharing" "shared" "Z" (.int (1 : Int32)) ∧ Fld Z h o0 "com/example/dialtone/dialtone/workload/Workers$Sharing" "steps" "J" (.long (1 : Int64)) ∧ Fld Z h o0 "com/example/dialtone/dialtone/workload/Workers$Sharing" "sharedOverUnshared" "D" (.double (own_Q st A (FP.ddiv (FP.l2d (own_D st d)) (FP.l2d A)))) ∧ Arv Z h ta kt .double (2 : Int32) [(.double (FP.l2d A)), (.double (FP.l2d (own_D st d)))] (.double (0 : UInt64))
set_option maxRecDepth 65536 in
set_option maxHeartbeats 40000000 in
theorem rm6_1z (l : Launch) (Z : State) (a0 : Array Value) (hw : ∀ d ∈ tables_1, d.before a0 Z = true) (ws : List Jvm.Cond) (o0 : Addr) (q1 : Int64) (ta : Addr) (kt : ClassId) (rr st d A : Int64) (h0 : Heap) (n0 : Nat) (Z0 : n0 ≤ h0.size) (E0 : Exa Z h0 o0 "com/example/dialtone/dialtone/workload/Workers$Sharing") (g_o0 : n0 ≤ o0) (g_ta : n0 ≤ ta) (ne_ta_o0 : ta ≠ o0) (P_nanosPerStep : Fld Z h0 o0 "com/example/dialtone/dialtone/workload/Workers$Sharing" "nanosPerStep" "[D" (.ref ta)) (P_rounds : Fld Z h0 o0 "com/example/dialtone/dialtone/workload/Workers$Sharing" "rounds" "J" (.long rr)) (P_otherWay : Fld Z h0 o0 "com/example/dialtone/dialtone/workload/Workers$Sharing" "otherWay" "Z" (.int (0 : Int32))) (P_started : Fld Z h0 o0 "com/example/dialtone/dialtone/workload/Workers$Sharing" "started" "J" (.long st)) (P_shared : Fld Z h0 o0 "com/example/dialtone/dialtone/workload/Workers$Sharing" "shared" "Z" (.int (1 : Int32))) (P_steps : Fld Z h0 o0 "com/example/dialtone/dialtone/workload/Workers$Sharing" "steps" "J" (.long (1 : Int64))) (P_sharedOverUnshared : Fld Z h0 o0 "com/example/dialtone/dialtone/workload/Workers$Sharing" "sharedOverUnshared" "D" (.double (0 : UInt64))) (VT : Arv Z h0 ta kt .double (2 : Int32) [(.double (FP.l2d A)), (.double (FP.l2d (0 : Int64)))] (.double (0 : UInt64))) (hd : q1 - st = d) (cd : own_ct d) (cA : own_ct A) :
    MetFree l (⟨"com/example/dialtone/dialtone/workload/Workers$Sharing", "ended", "(J)V"⟩ : MethodName) (head1 (Jvm.Cond.code (⟨"com/example/dialtone/dialtone/workload/Workers$Sharing", "ended", "(J)V"⟩ : MethodName) prog_268_method_5_code 8 none :: ws) ({ frames := 1, cells := 0, slots := 0, locals := 20 } : Room)) (fun a U => a = #[(.ref o0), (.long q1)] ∧ Z.Warmed39 U.vm ∧ U.heap = h0) (fun _ _ _ _ _ => True) (fun _ U o U' => ∃ v L, o = .returned v ∧ Q_rm6_1z Z o0 q1 ta kt rr st d A h0 n0 v U'.heap L ∧ FrameEnd U o U' L ({ frames := 1, cells := 0, slots := 0, locals := 20 } : Room).cells ({ frames := 1, cells := 0, slots := 0, locals := 20 } : Room).slots) := by
  refine MetFree.of_bodySF (plainFor_of_name pn_com_example_dialtone_dialtone_workload_Workers_Sharing) hisR ?_
  intro p e s m args below meth c s₁ Bd hml0 hP hK
  obtain ⟨rfl, hZ, hh⟩ := hP
  have hx := Bd.exec
  have hby := Bd.bytes
  have hlk := BodyLoose.notSynchronized Bd
  have hrt := Bd.returns
  have hml : c.maxLocals = 8 := hml0
  have hown : s.vm.findClass "com/example/dialtone/dialtone/workload/Workers$Sharing" = some m.cls := findClass_of_methodNamed Bd.named
  have hnm := (name_of_methodNamed Bd.named Bd.method).1
  have X0 : Stand p l e ({ frames := 1, cells := 0, slots := 0, locals := 20 } : Room) s m #[(.ref o0), (.long q1)] below meth c s₁ [] 0 0 := Stand.of_body Bd
  have e0 : s₁.heap = h0 := by rw [← hh, Bd.state]; rfl
  have N0 := Fr.nil n0
  have K0 : Keep h0 h0 [o0, ta] := Keep.refl h0 _
  show Runs p e below (QE s (Q_rm6_1z Z o0 q1 ta kt rr st d A h0 n0) ({ frames := 1, cells := 0, slots := 0, locals := 20 } : Room).cells ({ frames := 1, cells := 0, slots := 0, locals := 20 } : Room).slots) (s₁.setTop (entryFrame m #[(.ref o0), (.long q1)] 8))
  rw [ef_6_6 m o0 q1]
  refine Runs.by (fun _ hr => XS.aloadN X0.here hx rfl (hb hby d6_0) rfl rfl hr) ?_
  show Runs p e below _ (s₁.setTop (mkF m 1 #[.val (.ref o0), .val (.long q1), .second, .unset, .unset, .unset, .unset, .unset] [(.ref o0)]))
  obtain ⟨T1, X1, e1, st1⟩ := getF X0 hx hZ hown (host := "") (Or.inl (hw _ (List.mem_of_getElem? (i := 27) rfl))) Via.refl e0 P_started (g := (mkF m 1 #[.val (.ref o0), .val (.long q1), .second, .unset, .unset, .unset, .unset, .unset] [(.ref o0)])) rfl rfl (hb hby d6_1)
  refine Runs.by st1 ?_
  refine Runs.by (fun _ hr => XS.lconst X1.here hx rfl (hb hby d6_4) hr) ?_
  refine Runs.by (fun _ hr => XS.lcmp X1.here hx rfl (hb hby d6_5) rfl hr) ?_
  show Runs p e below _ (T1.setTop (mkF m 6 #[.val (.ref o0), .val (.long q1), .second, .unset, .unset, .unset, .unset, .unset] [(.int (lcmpW st (0 : Int64)))]))
  by_cases hc6 : (lcmpW st (0 : Int64)) = (0 : Int32)
  · -- pc 6: (lcmpW st (0 : Int64)) = (0 : Int32)
    refine Runs.by (fun _ hr => XS.ifYes X1.here hx rfl (pc0 := 6) (pc' := 166) rfl (hb hby d6_6) rfl ((if0 _ _).trans (teq hc6).1) (by decide) (by decide) hr) ?_
    refine Runs.by (fun _ hr => XS.aloadN X1.here hx rfl (hb hby d6_166) rfl rfl hr) ?_
    refine Runs.by (fun _ hr => XS.lconst X1.here hx rfl (hb hby d6_167) hr) ?_
    show Runs p e below _ (T1.setTop (mkF m 168 #[.val (.ref o0), .val (.long q1), .second, .unset, .unset, .unset, .unset, .unset] [(.long (0 : Int64)), (.ref o0)]))
    obtain ⟨T2, h2, X2, e2, W2, st2⟩ := putF X1 hx hZ hown (host := "") (Or.inl (hw _ (List.mem_of_getElem? (i := 27) rfl))) Via.refl e1 P_started E0 (Or.inl (hw _ (List.mem_of_getElem? (i := 28) rfl))) (hw _ (List.mem_of_getElem? (i := 2) rfl)) (ty := .long) (by decide) rfl rfl (g := (mkF m 168 #[.val (.ref o0), .val (.long q1), .second, .unset, .unset, .unset, .unset, .unset] [(.long (0 : Int64)), (.ref o0)])) rfl rfl (hb hby d6_168)
    have Fw2 := P_started.same W2
    have K3 : Keep h0 h2 [o0, ta] := K0.wr W2 (Or.inl (List.mem_of_getElem? (i := 0) rfl))
    have N2 := Fr.snoc X2 N0 g_o0
    refine Runs.by st2 ?_
    show Runs p e below _ (T2.setTop (mkF m 171 #[.val (.ref o0), .val (.long q1), .second, .unset, .unset, .unset, .unset, .unset] []))
    refine Runs.retV X2 hx hrt hlk (hb hby d6_171) (by decide) (by decide) ?_
    rw [e2]
    unfold Q_rm6_1z
    have hst : st = 0 := own_lcz.mp hc6
    rw [own_D, if_pos hst, own_Q, if_pos hst]
    exact ⟨rfl, N2, K3, (E0.wr W2), (P_nanosPerStep.other W2 (Or.inr (slot_ne (Or.inr (hw _ (List.mem_of_getElem? (i := 12) rfl))) (Or.inl (hw _ (List.mem_of_getElem? (i := 28) rfl))) (by decide) (t := (.array .double)) (t' := .long) (by decide) (by decide)))), (P_rounds.other W2 (Or.inr (slot_ne (Or.inl (hw _ (List.mem_of_getElem? (i := 19) rfl))) (Or.inl (hw _ (List.mem_of_getElem? (i := 28) rfl))) (by decide) (t := .long) (t' := .long) (by decide) (by decide)))), (P_otherWay.other W2 (Or.inr (slot_ne (Or.inl (hw _ (List.mem_of_getElem? (i := 21) rfl))) (Or.inl (hw _ (List.mem_of_getElem? (i := 28) rfl))) (by decide) (t := .boolean) (t' := .long) (by decide) (by decide)))), Fw2, (P_shared.other W2 (Or.inr (slot_ne (Or.inl (hw _ (List.mem_of_getElem? (i := 30) rfl))) (Or.inl (hw _ (List.mem_of_getElem? (i := 28) rfl))) (by decide) (t := .boolean) (t' := .long) (by decide) (by decide)))), (P_steps.other W2 (Or.inr (slot_ne (Or.inl (hw _ (List.mem_of_getElem? (i := 32) rfl))) (Or.inl (hw _ (List.mem_of_getElem? (i := 28) rfl))) (by decide) (t := .long) (t' := .long) (by decide) (by decide)))), (P_sharedOverUnshared.other W2 (Or.inr (slot_ne (Or.inl (hw _ (List.mem_of_getElem? (i := 47) rfl))) (Or.inl (hw _ (List.mem_of_getElem? (i := 28) rfl))) (by decide) (t := .double) (t' := .long) (by decide) (by decide)))), (VT.other W2 ne_ta_o0)⟩
  · -- pc 6: not (lcmpW st (0 : Int64)) = (0 : Int32)
    refine Runs.by (fun _ hr => XS.ifNo X1.here hx rfl (hb hby d6_6) rfl ((if0 _ _).trans (feq hc6).1) hr) ?_
    refine Runs.by (fun _ hr => XS.aloadN X1.here hx rfl (hb hby d6_9) rfl rfl hr) ?_
    show Runs p e below _ (T1.setTop (mkF m 10 #[.val (.ref o0), .val (.long q1), .second, .unset, .unset, .unset, .unset, .unset] [(.ref o0)]))
    obtain ⟨T4, X4, e4, st4⟩ := getF X1 hx hZ hown (host := "") (Or.inl (hw _ (List.mem_of_getElem? (i := 31) rfl))) Via.refl e1 P_steps (g := (mkF m 10 #[.val (.ref o0), .val (.long q1), .second, .unset, .unset, .unset, .unset, .unset] [(.ref o0)])) rfl rfl (hb hby d6_10)
    refine Runs.by st4 ?_
    refine Runs.by (fun _ hr => XS.lconst X4.here hx rfl (hb hby d6_13) hr) ?_
    refine Runs.by (fun _ hr => XS.lcmp X4.here hx rfl (hb hby d6_14) rfl hr) ?_
    show Runs p e below _ (T4.setTop (mkF m 15 #[.val (.ref o0), .val (.long q1), .second, .unset, .unset, .unset, .unset, .unset] [(.int (lcmpW (1 : Int64) (0 : Int64)))]))
    have hc15 : (0 : Int32) < (lcmpW (1 : Int64) (0 : Int64)) := (by decide)
    refine Runs.by (fun _ hr => XS.ifNo X4.here hx rfl (hb hby d6_15) rfl ((if0 _ _).trans (tlt hc15).2.2.2) hr) ?_
    refine Runs.by (fun _ hr => XS.lloadN X4.here hx rfl (hb hby d6_18) rfl  hr) ?_
    refine Runs.by (fun _ hr => XS.aloadN X4.here hx rfl (hb hby d6_19) rfl rfl hr) ?_
    show Runs p e below _ (T4.setTop (mkF m 20 #[.val (.ref o0), .val (.long q1), .second, .unset, .unset, .unset, .unset, .unset] [(.ref o0), (.long q1)]))
    obtain ⟨T5, X5, e5, st5⟩ := getF X4 hx hZ hown (host := "") (Or.inl (hw _ (List.mem_of_getElem? (i := 27) rfl))) Via.refl e4 P_started (g := (mkF m 20 #[.val (.ref o0), .val (.long q1), .second, .unset, .unset, .unset, .unset, .unset] [(.ref o0), (.long q1)])) rfl rfl (hb hby d6_20)
    refine Runs.by st5 ?_
    show Runs p e below _ (T5.setTop (mkF m 23 #[.val (.ref o0), .val (.long q1), .second, .unset, .unset, .unset, .unset, .unset] [(.long st), (.long q1)]))
    refine Runs.by (fun _ hr => XS.lsub X5.here hx rfl (hb hby d6_23) rfl hr) ?_
    show Runs p e below _ (T5.setTop (mkF m 24 #[.val (.ref o0), .val (.long q1), .second, .unset, .unset, .unset, .unset, .unset] [(.long (q1 - st))]))
    refine Runs.by (fun _ hr => XS.l2dS X5.here hx rfl (hb hby d6_24) rfl rfl hr) ?_
    refine Runs.by (fun _ hr => XS.aloadN X5.here hx rfl (hb hby d6_25) rfl rfl hr) ?_
    show Runs p e below _ (T5.setTop (mkF m 26 #[.val (.ref o0), .val (.long q1), .second, .unset, .unset, .unset, .unset, .unset] [(.ref o0), (.double (FP.l2d (q1 - st)))]))
    obtain ⟨T6, X6, e6, st6⟩ := getF X5 hx hZ hown (host := "") (Or.inl (hw _ (List.mem_of_getElem? (i := 31) rfl))) Via.refl e5 P_steps (g := (mkF m 26 #[.val (.ref o0), .val (.long q1), .second, .unset, .unset, .unset, .unset, .unset] [(.ref o0), (.double (FP.l2d (q1 - st)))])) rfl rfl (hb hby d6_26)
    refine Runs.by st6 ?_
    show Runs p e below _ (T6.setTop (mkF m 29 #[.val (.ref o0), .val (.long q1), .second, .unset, .unset, .unset, .unset, .unset] [(.long (1 : Int64)), (.double (FP.l2d (q1 - st)))]))
    refine Runs.by (fun _ hr => XS.l2dS X6.here hx rfl (hb hby d6_29) rfl rfl hr) ?_
    show Runs p e below _ (T6.setTop (mkF m 30 #[.val (.ref o0), .val (.long q1), .second, .unset, .unset, .unset, .unset, .unset] [(.double (FP.l2d (1 : Int64))), (.double (FP.l2d (q1 - st)))]))
    refine Runs.by (fun _ hr => XS.ddivS X6.here hx rfl (hb hby d6_30) rfl (own_nn1 _) rfl hr) ?_
    rw [own_ddiv1, hd]
    refine Runs.by (fun _ hr => XS.dstoreN X6.here hx rfl (hb hby d6_31) rfl (l' := #[.val (.ref o0), .val (.long q1), .second, .val (.double (FP.l2d d)), .second, .unset, .unset, .unset]) rfl hr) ?_
    refine Runs.by (fun _ hr => XS.aloadN X6.here hx rfl (hb hby d6_32) rfl rfl hr) ?_
    show Runs p e below _ (T6.setTop (mkF m 33 #[.val (.ref o0), .val (.long q1), .second, .val (.double (FP.l2d d)), .second, .unset, .unset, .unset] [(.ref o0)]))
    obtain ⟨T7, X7, e7, st7⟩ := getF X6 hx hZ hown (host := "") (Or.inl (hw _ (List.mem_of_getElem? (i := 29) rfl))) Via.refl e6 P_shared (g := (mkF m 33 #[.val (.ref o0), .val (.long q1), .second, .val (.double (FP.l2d d)), .second, .unset, .unset, .unset] [(.ref o0)])) rfl rfl (hb hby d6_33)
    refine Runs.by st7 ?_
    have hc36 : ¬ ((1 : Int32) = (0 : Int32)) := (by decide)
    refine Runs.by (fun _ hr => XS.ifNo X7.here hx rfl (hb hby d6_36) rfl ((if0 _ _).trans (feq hc36).1) hr) ?_
    refine Runs.by (fun _ hr => XS.iconst X7.here hx rfl (hb hby d6_39) hr) ?_
    show Runs p e below _ (T7.setTop (mkF m 40 #[.val (.ref o0), .val (.long q1), .second, .val (.double (FP.l2d d)), .second, .unset, .unset, .unset] [(.int (1 : Int32))]))
    refine Runs.by (fun _ hr => XS.goto X7.here hx rfl (pc0 := 40) (pc' := 44) rfl (hb hby d6_40) (by decide) (by decide) hr) ?_
    refine Runs.by (fun _ hr => XS.istore X7.here hx rfl (hb hby d6_44) rfl (l' := #[.val (.ref o0), .val (.long q1), .second, .val (.double (FP.l2d d)), .second, .val (.int (1 : Int32)), .unset, .unset]) rfl hr) ?_
    refine Runs.by (fun _ hr => XS.aloadN X7.here hx rfl (hb hby d6_46) rfl rfl hr) ?_
    show Runs p e below _ (T7.setTop (mkF m 47 #[.val (.ref o0), .val (.long q1), .second, .val (.double (FP.l2d d)), .second, .val (.int (1 : Int32)), .unset, .unset] [(.ref o0)]))
    obtain ⟨T8, X8, e8, st8⟩ := getF X7 hx hZ hown (host := "") (Or.inl (hw _ (List.mem_of_getElem? (i := 20) rfl))) Via.refl e7 P_otherWay (g := (mkF m 47 #[.val (.ref o0), .val (.long q1), .second, .val (.double (FP.l2d d)), .second, .val (.int (1 : Int32)), .unset, .unset] [(.ref o0)])) rfl rfl (hb hby d6_47)
    refine Runs.by st8 ?_
    have hc50 : (0 : Int32) = (0 : Int32) := (by decide)
    refine Runs.by (fun _ hr => XS.ifYes X8.here hx rfl (pc0 := 50) (pc' := 108) rfl (hb hby d6_50) rfl ((if0 _ _).trans (teq hc50).1) (by decide) (by decide) hr) ?_
    refine Runs.by (fun _ hr => XS.aloadN X8.here hx rfl (hb hby d6_108) rfl rfl hr) ?_
    show Runs p e below _ (T8.setTop (mkF m 109 #[.val (.ref o0), .val (.long q1), .second, .val (.double (FP.l2d d)), .second, .val (.int (1 : Int32)), .unset, .unset] [(.ref o0)]))
    obtain ⟨T9, X9, e9, st9⟩ := getF X8 hx hZ hown (host := "") (Or.inl (hw _ (List.mem_of_getElem? (i := 11) rfl))) Via.refl e8 P_nanosPerStep (g := (mkF m 109 #[.val (.ref o0), .val (.long q1), .second, .val (.double (FP.l2d d)), .second, .val (.int (1 : Int32)), .unset, .unset] [(.ref o0)])) rfl rfl (hb hby d6_109)
    refine Runs.by st9 ?_
    refine Runs.by (fun _ hr => XS.iload X9.here hx rfl (hb hby d6_112) rfl  hr) ?_
    refine Runs.by (fun _ hr => XS.aloadN X9.here hx rfl (hb hby d6_114) rfl rfl hr) ?_
    show Runs p e below _ (T9.setTop (mkF m 115 #[.val (.ref o0), .val (.long q1), .second, .val (.double (FP.l2d d)), .second, .val (.int (1 : Int32)), .unset, .unset] [(.ref o0), (.int (1 : Int32)), (.ref ta)]))
    obtain ⟨T10, X10, e10, st10⟩ := getF X9 hx hZ hown (host := "") (Or.inl (hw _ (List.mem_of_getElem? (i := 11) rfl))) Via.refl e9 P_nanosPerStep (g := (mkF m 115 #[.val (.ref o0), .val (.long q1), .second, .val (.double (FP.l2d d)), .second, .val (.int (1 : Int32)), .unset, .unset] [(.ref o0), (.int (1 : Int32)), (.ref ta)])) rfl rfl (hb hby d6_115)
    refine Runs.by st10 ?_
    refine Runs.by (fun _ hr => XS.iload X10.here hx rfl (hb hby d6_118) rfl  hr) ?_
    show Runs p e below _ (T10.setTop (mkF m 120 #[.val (.ref o0), .val (.long q1), .second, .val (.double (FP.l2d d)), .second, .val (.int (1 : Int32)), .unset, .unset] [(.int (1 : Int32)), (.ref ta), (.int (1 : Int32)), (.ref ta)]))
    obtain ⟨cl11, Ar11, -, S11, N11', H11, -⟩ := id VT
    have hin11 : ¬ ((1 : Int32) < 0 ∨ cl11.slots.size ≤ ((1 : Int32)).toNatClampNeg) := inb_of S11 ⟨by decide, by decide⟩
    have hat11 := H11.at hin11 (v := (.double (FP.l2d (0 : Int64)))) rfl
    refine Runs.by (fun t hr => X10.daload hx (j := (1 : Int32)) (v := (.double (FP.l2d (0 : Int64)))) (by rw [e10]; exact Ar11.1) (State.isArrayOf_alike hZ.alike Ar11.2.1) Ar11.2.2 hin11 hat11 (g := (mkF m 120 #[.val (.ref o0), .val (.long q1), .second, .val (.double (FP.l2d d)), .second, .val (.int (1 : Int32)), .unset, .unset] [(.int (1 : Int32)), (.ref ta), (.int (1 : Int32)), (.ref ta)])) rfl rfl (hb hby d6_120) t hr) ?_
    refine Runs.by (fun _ hr => XS.dloadN X10.here hx rfl (hb hby d6_121) rfl  hr) ?_
    show Runs p e below _ (T10.setTop (mkF m 122 #[.val (.ref o0), .val (.long q1), .second, .val (.double (FP.l2d d)), .second, .val (.int (1 : Int32)), .unset, .unset] [(.double (FP.l2d d)), (.double (FP.l2d (0 : Int64))), (.int (1 : Int32)), (.ref ta)]))
    obtain ⟨_, _, ⟨T12, L12, k12, n12⟩, -, X12, ⟨Lc12, hQ12, l12, y12, z12⟩, st12⟩ := Jvm.LawKit.callS X10 hx (y := (⟨"com/example/dialtone/dialtone/workload/Workers$Sharing", "average", "(DD)D"⟩ : MethodName)) hown (mvT hZ (hw _ (List.mem_of_getElem? (i := 43) rfl))) (mvT hZ (hw _ (List.mem_of_getElem? (i := 44) rfl))) (mvT hZ (hw _ (List.mem_of_getElem? (i := 3) rfl))) (mvT hZ (hw _ (List.mem_of_getElem? (i := 45) rfl))) (by decide) (backOf (W := 2) (rm7a l Z a0 hw [] (FP.l2d (0 : Int64)) (FP.l2d d)  h0 n0 (Nat.le_trans Z0 K0.1) own_c00) hZ (hw _ (List.mem_of_getElem? (i := 45) rfl)) (hw _ (List.mem_of_getElem? (i := 3) rfl)) (by decide) (by decide)) (g := (mkF m 122 #[.val (.ref o0), .val (.long q1), .second, .val (.double (FP.l2d d)), .second, .val (.int (1 : Int32)), .unset, .unset] [(.double (FP.l2d d)), (.double (FP.l2d (0 : Int64))), (.int (1 : Int32)), (.ref ta)])) rfl (by rw [hml]; rfl) (argsL := [(.double (FP.l2d (0 : Int64))), (.double (FP.l2d d))]) (rest := [(.int (1 : Int32)), (.ref ta)]) (lenOf pd_0 rfl) rfl (by show 2 * 0 + _ ≤ _; exact Nat.le_of_eq rfl) (hb hby d6_122) (fun _ _ => ⟨rfl, e10, (by decide : 0 + 0 ≤ _), (by decide : 0 + 0 ≤ _)⟩)
    dsimp only [Pt.U, Pt.locs, Pt.cells, Pt.slots] at X12 l12 y12 z12 st12 hQ12
    subst l12 y12 z12
    obtain ⟨rfl, Nq12, eq12⟩ := hQ12
    have N12 := Fr.app N0 Nq12
    refine Runs.by (fun t hr => st12 t hr) ?_
    show Runs p e below _ (T12.setTop (mkF m 125 #[.val (.ref o0), .val (.long q1), .second, .val (.double (FP.l2d d)), .second, .val (.int (1 : Int32)), .unset, .unset] [(.double (FP.l2d d)), (.int (1 : Int32)), (.ref ta)]))
    obtain ⟨cl13, Ar13, q13, S13, N13', H13, G13⟩ := id VT
    have hin13 : ¬ ((1 : Int32) < 0 ∨ cl13.slots.size ≤ ((1 : Int32)).toNatClampNeg) := inb_of S13 ⟨by decide, by decide⟩
    obtain ⟨T13, h13, X13, e13, W13, st13⟩ := stD X12 hx hZ eq12 Ar13 (j := (1 : Int32)) hin13 (g := (mkF m 125 #[.val (.ref o0), .val (.long q1), .second, .val (.double (FP.l2d d)), .second, .val (.int (1 : Int32)), .unset, .unset] [(.double (FP.l2d d)), (.int (1 : Int32)), (.ref ta)])) rfl rfl (hb hby d6_125)
    have V13 : Arv Z h13 ta kt .double (2 : Int32) [(.double (FP.l2d A)), (.double (FP.l2d d))] (.double (0 : UInt64)) := Arv.set Ar13 q13 S13 N13' H13 G13 rfl W13 (1) rfl (Nat.le_of_ble_eq_true rfl)
    have K14 : Keep h0 h13 [o0, ta] := K0.wr W13 (Or.inl (List.mem_of_getElem? (i := 1) rfl))
    have N13 := Fr.snoc X13 N12 g_ta
    refine Runs.by st13 ?_
    refine Runs.by (fun _ hr => XS.aloadN X13.here hx rfl (hb hby d6_126) rfl rfl hr) ?_
    show Runs p e below _ (T13.setTop (mkF m 127 #[.val (.ref o0), .val (.long q1), .second, .val (.double (FP.l2d d)), .second, .val (.int (1 : Int32)), .unset, .unset] [(.ref o0)]))
    obtain ⟨T15, X15, e15, st15⟩ := getF X13 hx hZ hown (host := "") (Or.inl (hw _ (List.mem_of_getElem? (i := 46) rfl))) Via.refl e13 (P_sharedOverUnshared.other W13 (Or.inl (Ne.symm ne_ta_o0))) (g := (mkF m 127 #[.val (.ref o0), .val (.long q1), .second, .val (.double (FP.l2d d)), .second, .val (.int (1 : Int32)), .unset, .unset] [(.ref o0)])) rfl rfl (hb hby d6_127)
    refine Runs.by st15 ?_
    refine Runs.by (fun _ hr => XS.dconst0 X15.here hx rfl (hb hby d6_130) rfl hr) ?_
    show Runs p e below _ (T15.setTop (mkF m 131 #[.val (.ref o0), .val (.long q1), .second, .val (.double (FP.l2d d)), .second, .val (.int (1 : Int32)), .unset, .unset] [(.double FP.dconst0), (.double (0 : UInt64))]))
    refine Runs.by (fun _ hr => XS.dcmpS X15.here hx rfl (hb hby d6_131) rfl rfl hr) ?_
    have hc132 : (cmpValue (FP.dcmp (0 : UInt64) FP.dconst0) .l) = (0 : Int32) := own_cz
    refine Runs.by (fun _ hr => XS.ifNo X15.here hx rfl (hb hby d6_132) rfl ((if0 _ _).trans (teq hc132).2) hr) ?_
    refine Runs.by (fun _ hr => XS.aloadN X15.here hx rfl (hb hby d6_135) rfl rfl hr) ?_
    show Runs p e below _ (T15.setTop (mkF m 136 #[.val (.ref o0), .val (.long q1), .second, .val (.double (FP.l2d d)), .second, .val (.int (1 : Int32)), .unset, .unset] [(.ref o0)]))
    obtain ⟨T16, X16, e16, st16⟩ := getF X15 hx hZ hown (host := "") (Or.inl (hw _ (List.mem_of_getElem? (i := 11) rfl))) Via.refl e15 (P_nanosPerStep.other W13 (Or.inl (Ne.symm ne_ta_o0))) (g := (mkF m 136 #[.val (.ref o0), .val (.long q1), .second, .val (.double (FP.l2d d)), .second, .val (.int (1 : Int32)), .unset, .unset] [(.ref o0)])) rfl rfl (hb hby d6_136)
    refine Runs.by st16 ?_
    refine Runs.by (fun _ hr => XS.iconst X16.here hx rfl (hb hby d6_139) hr) ?_
    refine Runs.by (fun _ hr => XS.iload X16.here hx rfl (hb hby d6_140) rfl  hr) ?_
    show Runs p e below _ (T16.setTop (mkF m 142 #[.val (.ref o0), .val (.long q1), .second, .val (.double (FP.l2d d)), .second, .val (.int (1 : Int32)), .unset, .unset] [(.int (1 : Int32)), (.int (1 : Int32)), (.ref ta)]))
    refine Runs.by (fun _ hr => XS.isub X16.here hx rfl (hb hby d6_142) rfl hr) ?_
    show Runs p e below _ (T16.setTop (mkF m 143 #[.val (.ref o0), .val (.long q1), .second, .val (.double (FP.l2d d)), .second, .val (.int (1 : Int32)), .unset, .unset] [(.int (0 : Int32)), (.ref ta)]))
    obtain ⟨cl17, Ar17, -, S17, N17', H17, -⟩ := id V13
    have hin17 : ¬ ((0 : Int32) < 0 ∨ cl17.slots.size ≤ ((0 : Int32)).toNatClampNeg) := inb_of S17 ⟨by decide, by decide⟩
    have hat17 := H17.at hin17 (v := (.double (FP.l2d A))) rfl
    refine Runs.by (fun t hr => X16.daload hx (j := (0 : Int32)) (v := (.double (FP.l2d A))) (by rw [e16]; exact Ar17.1) (State.isArrayOf_alike hZ.alike Ar17.2.1) Ar17.2.2 hin17 hat17 (g := (mkF m 143 #[.val (.ref o0), .val (.long q1), .second, .val (.double (FP.l2d d)), .second, .val (.int (1 : Int32)), .unset, .unset] [(.int (0 : Int32)), (.ref ta)])) rfl rfl (hb hby d6_143) t hr) ?_
    refine Runs.by (fun _ hr => XS.dconst0 X16.here hx rfl (hb hby d6_144) rfl hr) ?_
    show Runs p e below _ (T16.setTop (mkF m 145 #[.val (.ref o0), .val (.long q1), .second, .val (.double (FP.l2d d)), .second, .val (.int (1 : Int32)), .unset, .unset] [(.double FP.dconst0), (.double (FP.l2d A))]))
    refine Runs.by (fun _ hr => XS.dcmpS X16.here hx rfl (hb hby d6_145) rfl rfl hr) ?_
    by_cases hc146 : (cmpValue (FP.dcmp (FP.l2d A) FP.dconst0) .l) = (0 : Int32)
    · -- pc 146: (cmpValue (FP.dcmp (FP.l2d A) FP.dconst0) .l) = (0 : Int32)
      refine Runs.by (fun _ hr => XS.ifYes X16.here hx rfl (pc0 := 146) (pc' := 166) rfl (hb hby d6_146) rfl ((if0 _ _).trans (teq hc146).1) (by decide) (by decide) hr) ?_
      refine Runs.by (fun _ hr => XS.aloadN X16.here hx rfl (hb hby d6_166) rfl rfl hr) ?_
      show Runs p e below _ (T16.setTop (mkF m 167 #[.val (.ref o0), .val (.long q1), .second, .val (.double (FP.l2d d)), .second, .val (.int (1 : Int32)), .unset, .unset] [(.ref o0)]))
      refine Runs.by (fun _ hr => XS.lconst X16.here hx rfl (hb hby d6_167) hr) ?_
      show Runs p e below _ (T16.setTop (mkF m 168 #[.val (.ref o0), .val (.long q1), .second, .val (.double (FP.l2d d)), .second, .val (.int (1 : Int32)), .unset, .unset] [(.long (0 : Int64)), (.ref o0)]))
      obtain ⟨T18, h18, X18, e18, W18, st18⟩ := putF X16 hx hZ hown (host := "") (Or.inl (hw _ (List.mem_of_getElem? (i := 27) rfl))) Via.refl e16 (P_started.other W13 (Or.inl (Ne.symm ne_ta_o0))) (E0.wr W13) (Or.inl (hw _ (List.mem_of_getElem? (i := 28) rfl))) (hw _ (List.mem_of_getElem? (i := 2) rfl)) (ty := .long) (by decide) rfl rfl (g := (mkF m 168 #[.val (.ref o0), .val (.long q1), .second, .val (.double (FP.l2d d)), .second, .val (.int (1 : Int32)), .unset, .unset] [(.long (0 : Int64)), (.ref o0)])) rfl rfl (hb hby d6_168)
      have Fw18 := (P_started.other W13 (Or.inl (Ne.symm ne_ta_o0))).same W18
      have K19 : Keep h0 h18 [o0, ta] := K14.wr W18 (Or.inl (List.mem_of_getElem? (i := 0) rfl))
      have N18 := Fr.snoc X18 N13 g_o0
      refine Runs.by st18 ?_
      show Runs p e below _ (T18.setTop (mkF m 171 #[.val (.ref o0), .val (.long q1), .second, .val (.double (FP.l2d d)), .second, .val (.int (1 : Int32)), .unset, .unset] []))
      refine Runs.retV X18 hx hrt hlk (hb hby d6_171) (by decide) (by decide) ?_
      rw [e18]
      unfold Q_rm6_1z
      have hst : ¬ st = 0 := fun z => hc6 (own_lcz.mpr z)
      have hA : A = 0 := (own_cA cA).mp hc146
      rw [own_D, if_neg hst, own_Q, if_neg hst, if_pos hA]
      exact ⟨rfl, N18, K19, ((E0.wr W13).wr W18), ((P_nanosPerStep.other W13 (Or.inl (Ne.symm ne_ta_o0))).other W18 (Or.inr (slot_ne (Or.inr (hw _ (List.mem_of_getElem? (i := 12) rfl))) (Or.inl (hw _ (List.mem_of_getElem? (i := 28) rfl))) (by decide) (t := (.array .double)) (t' := .long) (by decide) (by decide)))), ((P_rounds.other W13 (Or.inl (Ne.symm ne_ta_o0))).other W18 (Or.inr (slot_ne (Or.inl (hw _ (List.mem_of_getElem? (i := 19) rfl))) (Or.inl (hw _ (List.mem_of_getElem? (i := 28) rfl))) (by decide) (t := .long) (t' := .long) (by decide) (by decide)))), ((P_otherWay.other W13 (Or.inl (Ne.symm ne_ta_o0))).other W18 (Or.inr (slot_ne (Or.inl (hw _ (List.mem_of_getElem? (i := 21) rfl))) (Or.inl (hw _ (List.mem_of_getElem? (i := 28) rfl))) (by decide) (t := .boolean) (t' := .long) (by decide) (by decide)))), Fw18, ((P_shared.other W13 (Or.inl (Ne.symm ne_ta_o0))).other W18 (Or.inr (slot_ne (Or.inl (hw _ (List.mem_of_getElem? (i := 30) rfl))) (Or.inl (hw _ (List.mem_of_getElem? (i := 28) rfl))) (by decide) (t := .boolean) (t' := .long) (by decide) (by decide)))), ((P_steps.other W13 (Or.inl (Ne.symm ne_ta_o0))).other W18 (Or.inr (slot_ne (Or.inl (hw _ (List.mem_of_getElem? (i := 32) rfl))) (Or.inl (hw _ (List.mem_of_getElem? (i := 28) rfl))) (by decide) (t := .long) (t' := .long) (by decide) (by decide)))), ((P_sharedOverUnshared.other W13 (Or.inl (Ne.symm ne_ta_o0))).other W18 (Or.inr (slot_ne (Or.inl (hw _ (List.mem_of_getElem? (i := 47) rfl))) (Or.inl (hw _ (List.mem_of_getElem? (i := 28) rfl))) (by decide) (t := .double) (t' := .long) (by decide) (by decide)))), (V13.other W18 ne_ta_o0)⟩
    · -- pc 146: not (cmpValue (FP.dcmp (FP.l2d A) FP.dconst0) .l) = (0 : Int32)
      refine Runs.by (fun _ hr => XS.ifNo X16.here hx rfl (hb hby d6_146) rfl ((if0 _ _).trans (feq hc146).1) hr) ?_
      refine Runs.by (fun _ hr => XS.aloadN X16.here hx rfl (hb hby d6_149) rfl rfl hr) ?_
      show Runs p e below _ (T16.setTop (mkF m 150 #[.val (.ref o0), .val (.long q1), .second, .val (.double (FP.l2d d)), .second, .val (.int (1 : Int32)), .unset, .unset] [(.ref o0)]))
      refine Runs.by (fun _ hr => XS.aloadN X16.here hx rfl (hb hby d6_150) rfl rfl hr) ?_
      show Runs p e below _ (T16.setTop (mkF m 151 #[.val (.ref o0), .val (.long q1), .second, .val (.double (FP.l2d d)), .second, .val (.int (1 : Int32)), .unset, .unset] [(.ref o0), (.ref o0)]))
      obtain ⟨T20, X20, e20, st20⟩ := getF X16 hx hZ hown (host := "") (Or.inl (hw _ (List.mem_of_getElem? (i := 11) rfl))) Via.refl e16 (P_nanosPerStep.other W13 (Or.inl (Ne.symm ne_ta_o0))) (g := (mkF m 151 #[.val (.ref o0), .val (.long q1), .second, .val (.double (FP.l2d d)), .second, .val (.int (1 : Int32)), .unset, .unset] [(.ref o0), (.ref o0)])) rfl rfl (hb hby d6_151)
      refine Runs.by st20 ?_
      refine Runs.by (fun _ hr => XS.iconst X20.here hx rfl (hb hby d6_154) hr) ?_
      show Runs p e below _ (T20.setTop (mkF m 155 #[.val (.ref o0), .val (.long q1), .second, .val (.double (FP.l2d d)), .second, .val (.int (1 : Int32)), .unset, .unset] [(.int (1 : Int32)), (.ref ta), (.ref o0)]))
      obtain ⟨cl21, Ar21, -, S21, N21', H21, -⟩ := id V13
      have hin21 : ¬ ((1 : Int32) < 0 ∨ cl21.slots.size ≤ ((1 : Int32)).toNatClampNeg) := inb_of S21 ⟨by decide, by decide⟩
      have hat21 := H21.at hin21 (v := (.double (FP.l2d d))) rfl
      refine Runs.by (fun t hr => X20.daload hx (j := (1 : Int32)) (v := (.double (FP.l2d d))) (by rw [e20]; exact Ar21.1) (State.isArrayOf_alike hZ.alike Ar21.2.1) Ar21.2.2 hin21 hat21 (g := (mkF m 155 #[.val (.ref o0), .val (.long q1), .second, .val (.double (FP.l2d d)), .second, .val (.int (1 : Int32)), .unset, .unset] [(.int (1 : Int32)), (.ref ta), (.ref o0)])) rfl rfl (hb hby d6_155) t hr) ?_
      refine Runs.by (fun _ hr => XS.aloadN X20.here hx rfl (hb hby d6_156) rfl rfl hr) ?_
      show Runs p e below _ (T20.setTop (mkF m 157 #[.val (.ref o0), .val (.long q1), .second, .val (.double (FP.l2d d)), .second, .val (.int (1 : Int32)), .unset, .unset] [(.ref o0), (.double (FP.l2d d)), (.ref o0)]))
      obtain ⟨T22, X22, e22, st22⟩ := getF X20 hx hZ hown (host := "") (Or.inl (hw _ (List.mem_of_getElem? (i := 11) rfl))) Via.refl e20 (P_nanosPerStep.other W13 (Or.inl (Ne.symm ne_ta_o0))) (g := (mkF m 157 #[.val (.ref o0), .val (.long q1), .second, .val (.double (FP.l2d d)), .second, .val (.int (1 : Int32)), .unset, .unset] [(.ref o0), (.double (FP.l2d d)), (.ref o0)])) rfl rfl (hb hby d6_157)
      refine Runs.by st22 ?_
      refine Runs.by (fun _ hr => XS.iconst X22.here hx rfl (hb hby d6_160) hr) ?_
      show Runs p e below _ (T22.setTop (mkF m 161 #[.val (.ref o0), .val (.long q1), .second, .val (.double (FP.l2d d)), .second, .val (.int (1 : Int32)), .unset, .unset] [(.int (0 : Int32)), (.ref ta), (.double (FP.l2d d)), (.ref o0)]))
      obtain ⟨cl23, Ar23, -, S23, N23', H23, -⟩ := id V13
      have hin23 : ¬ ((0 : Int32) < 0 ∨ cl23.slots.size ≤ ((0 : Int32)).toNatClampNeg) := inb_of S23 ⟨by decide, by decide⟩
      have hat23 := H23.at hin23 (v := (.double (FP.l2d A))) rfl
      refine Runs.by (fun t hr => X22.daload hx (j := (0 : Int32)) (v := (.double (FP.l2d A))) (by rw [e22]; exact Ar23.1) (State.isArrayOf_alike hZ.alike Ar23.2.1) Ar23.2.2 hin23 hat23 (g := (mkF m 161 #[.val (.ref o0), .val (.long q1), .second, .val (.double (FP.l2d d)), .second, .val (.int (1 : Int32)), .unset, .unset] [(.int (0 : Int32)), (.ref ta), (.double (FP.l2d d)), (.ref o0)])) rfl rfl (hb hby d6_161) t hr) ?_
      show Runs p e below _ (T22.setTop (mkF m 162 #[.val (.ref o0), .val (.long q1), .second, .val (.double (FP.l2d d)), .second, .val (.int (1 : Int32)), .unset, .unset] [(.double (FP.l2d A)), (.double (FP.l2d d)), (.ref o0)]))
      refine Runs.by (fun _ hr => XS.ddivS X22.here hx rfl (hb hby d6_162) rfl (own_q_nn cA (fun z => hc146 ((own_cA cA).mpr z))) rfl hr) ?_
      show Runs p e below _ (T22.setTop (mkF m 163 #[.val (.ref o0), .val (.long q1), .second, .val (.double (FP.l2d d)), .second, .val (.int (1 : Int32)), .unset, .unset] [(.double (FP.ddiv (FP.l2d d) (FP.l2d A))), (.ref o0)]))
      obtain ⟨T24, h24, X24, e24, W24, st24⟩ := putF X22 hx hZ hown (host := "") (Or.inl (hw _ (List.mem_of_getElem? (i := 46) rfl))) Via.refl e22 (P_sharedOverUnshared.other W13 (Or.inl (Ne.symm ne_ta_o0))) (E0.wr W13) (Or.inl (hw _ (List.mem_of_getElem? (i := 47) rfl))) (hw _ (List.mem_of_getElem? (i := 2) rfl)) (ty := .double) (by decide) rfl rfl (g := (mkF m 163 #[.val (.ref o0), .val (.long q1), .second, .val (.double (FP.l2d d)), .second, .val (.int (1 : Int32)), .unset, .unset] [(.double (FP.ddiv (FP.l2d d) (FP.l2d A))), (.ref o0)])) rfl rfl (hb hby d6_163)
      have Fw24 := (P_sharedOverUnshared.other W13 (Or.inl (Ne.symm ne_ta_o0))).same W24
      have K25 : Keep h0 h24 [o0, ta] := K14.wr W24 (Or.inl (List.mem_of_getElem? (i := 0) rfl))
      have N24 := Fr.snoc X24 N13 g_o0
      refine Runs.by st24 ?_
      refine Runs.by (fun _ hr => XS.aloadN X24.here hx rfl (hb hby d6_166) rfl rfl hr) ?_
      refine Runs.by (fun _ hr => XS.lconst X24.here hx rfl (hb hby d6_167) hr) ?_
      show Runs p e below _ (T24.setTop (mkF m 168 #[.val (.ref o0), .val (.long q1), .second, .val (.double (FP.l2d d)), .second, .val (.int (1 : Int32)), .unset, .unset] [(.long (0 : Int64)), (.ref o0)]))
      obtain ⟨T26, h26, X26, e26, W26, st26⟩ := putF X24 hx hZ hown (host := "") (Or.inl (hw _ (List.mem_of_getElem? (i := 27) rfl))) Via.refl e24 ((P_started.other W13 (Or.inl (Ne.symm ne_ta_o0))).other W24 (Or.inr (slot_ne (Or.inl (hw _ (List.mem_of_getElem? (i := 28) rfl))) (Or.inl (hw _ (List.mem_of_getElem? (i := 47) rfl))) (by decide) (t := .long) (t' := .double) (by decide) (by decide)))) ((E0.wr W13).wr W24) (Or.inl (hw _ (List.mem_of_getElem? (i := 28) rfl))) (hw _ (List.mem_of_getElem? (i := 2) rfl)) (ty := .long) (by decide) rfl rfl (g := (mkF m 168 #[.val (.ref o0), .val (.long q1), .second, .val (.double (FP.l2d d)), .second, .val (.int (1 : Int32)), .unset, .unset] [(.long (0 : Int64)), (.ref o0)])) rfl rfl (hb hby d6_168)
      have Fw26 := ((P_started.other W13 (Or.inl (Ne.symm ne_ta_o0))).other W24 (Or.inr (slot_ne (Or.inl (hw _ (List.mem_of_getElem? (i := 28) rfl))) (Or.inl (hw _ (List.mem_of_getElem? (i := 47) rfl))) (by decide) (t := .long) (t' := .double) (by decide) (by decide)))).same W26
      have K27 : Keep h0 h26 [o0, ta] := K25.wr W26 (Or.inl (List.mem_of_getElem? (i := 0) rfl))
      have N26 := Fr.snoc X26 N24 g_o0
      refine Runs.by st26 ?_
      show Runs p e below _ (T26.setTop (mkF m 171 #[.val (.ref o0), .val (.long q1), .second, .val (.double (FP.l2d d)), .second, .val (.int (1 : Int32)), .unset, .unset] []))
      refine Runs.retV X26 hx hrt hlk (hb hby d6_171) (by decide) (by decide) ?_
      rw [e26]
      unfold Q_rm6_1z
      have hst : ¬ st = 0 := fun z => hc6 (own_lcz.mpr z)
      have hA : ¬ A = 0 := fun z => hc146 ((own_cA cA).mpr z)
      rw [own_D, if_neg hst, own_Q, if_neg hst, if_neg hA]
      exact ⟨rfl, N26, K27, (((E0.wr W13).wr W24).wr W26), (((P_nanosPerStep.other W13 (Or.inl (Ne.symm ne_ta_o0))).other W24 (Or.inr (slot_ne (Or.inr (hw _ (List.mem_of_getElem? (i := 12) rfl))) (Or.inl (hw _ (List.mem_of_getElem? (i := 47) rfl))) (by decide) (t := (.array .double)) (t' := .double) (by decide) (by decide)))).other W26 (Or.inr (slot_ne (Or.inr (hw _ (List.mem_of_getElem? (i := 12) rfl))) (Or.inl (hw _ (List.mem_of_getElem? (i := 28) rfl))) (by decide) (t := (.array .double)) (t' := .long) (by decide) (by decide)))), (((P_rounds.other W13 (Or.inl (Ne.symm ne_ta_o0))).other W24 (Or.inr (slot_ne (Or.inl (hw _ (List.mem_of_getElem? (i := 19) rfl))) (Or.inl (hw _ (List.mem_of_getElem? (i := 47) rfl))) (by decide) (t := .long) (t' := .double) (by decide) (by decide)))).other W26 (Or.inr (slot_ne (Or.inl (hw _ (List.mem_of_getElem? (i := 19) rfl))) (Or.inl (hw _ (List.mem_of_getElem? (i := 28) rfl))) (by decide) (t := .long) (t' := .long) (by decide) (by decide)))), (((P_otherWay.other W13 (Or.inl (Ne.symm ne_ta_o0))).other W24 (Or.inr (slot_ne (Or.inl (hw _ (List.mem_of_getElem? (i := 21) rfl))) (Or.inl (hw _ (List.mem_of_getElem? (i := 47) rfl))) (by decide) (t := .boolean) (t' := .double) (by decide) (by decide)))).other W26 (Or.inr (slot_ne (Or.inl (hw _ (List.mem_of_getElem? (i := 21) rfl))) (Or.inl (hw _ (List.mem_of_getElem? (i := 28) rfl))) (by decide) (t := .boolean) (t' := .long) (by decide) (by decide)))), Fw26, (((P_shared.other W13 (Or.inl (Ne.symm ne_ta_o0))).other W24 (Or.inr (slot_ne (Or.inl (hw _ (List.mem_of_getElem? (i := 30) rfl))) (Or.inl (hw _ (List.mem_of_getElem? (i := 47) rfl))) (by decide) (t := .boolean) (t' := .double) (by decide) (by decide)))).other W26 (Or.inr (slot_ne (Or.inl (hw _ (List.mem_of_getElem? (i := 30) rfl))) (Or.inl (hw _ (List.mem_of_getElem? (i := 28) rfl))) (by decide) (t := .boolean) (t' := .long) (by decide) (by decide)))), (((P_steps.other W13 (Or.inl (Ne.symm ne_ta_o0))).other W24 (Or.inr (slot_ne (Or.inl (hw _ (List.mem_of_getElem? (i := 32) rfl))) (Or.inl (hw _ (List.mem_of_getElem? (i := 47) rfl))) (by decide) (t := .long) (t' := .double) (by decide) (by decide)))).other W26 (Or.inr (slot_ne (Or.inl (hw _ (List.mem_of_getElem? (i := 32) rfl))) (Or.inl (hw _ (List.mem_of_getElem? (i := 28) rfl))) (by decide) (t := .long) (t' := .long) (by decide) (by decide)))), (Fw24.other W26 (Or.inr (slot_ne (Or.inl (hw _ (List.mem_of_getElem? (i := 47) rfl))) (Or.inl (hw _ (List.mem_of_getElem? (i := 28) rfl))) (by decide) (t := .double) (t' := .long) (by decide) (by decide)))), ((V13.other W24 ne_ta_o0).other W26 ne_ta_o0)⟩
def Q_rm6_1a (Z : State) (o0 : Addr) (q1 : Int64) (ta : Addr) (kt : ClassId) (rr st d B : Int64) (h0 : Heap) (n0 : Nat) (v : Option Value) (h : Heap) (L : List Loc) : Prop := v = none ∧ Fr n0 L ∧ Keep h0 h [o0, ta] ∧ Exa Z h o0 "com/example/dialtone/dialtone/workload/Workers$Sharing" ∧ Fld Z h o0 "com/example/dialtone/dialtone/workload/Workers$Sharing" "nanosPerStep" "[D" (.ref ta) ∧ Fld Z h o0 "com/example/dialtone/dialtone/workload/Workers$Sharing" "rounds" "J" (.long rr) ∧ Fld Z h o0 "com/example/dialtone/dialtone/workload/Workers$Sharing" "otherWay" "Z" (.int (0 : Int32)) ∧ Fld Z h o0 "com/example/dialtone/dialtone/workload/Workers$Sharing" "started" "J" (.long (0 : Int64)) ∧ Fld Z h o0 "com/example/dialtone/dialtone/workload/Workers$Sharing" "shared" "Z" (.int (1 : Int32)) ∧ Fld Z h o0 "com/example/dialtone/dialtone/workload/Workers$Sharing" "steps" "J" (.long (1 : Int64)) ∧ Fld Z h o0 "com/example/dialtone/dialtone/workload/Workers$Sharing" "sharedOverUnshared" "D" (.double (0 : UInt64)) ∧ Arv Z h ta kt .double (2 : Int32) [(.double (FP.l2d (0 : Int64))), (.double (own_X st B (FP.l2d d) (FP.dadd (FP.l2d B) (FP.dmul (4593671619917905920 : UInt64) (FP.dsub (FP.l2d d) (FP.l2d B))))))] (.double (0 : UInt64))
set_option maxRecDepth 65536 in
set_option maxHeartbeats 40000000 in
theorem rm6_1a (l : Launch) (Z : State) (a0 : Array Value) (hw : ∀ d ∈ tables_1, d.before a0 Z = true) (ws : List Jvm.Cond) (o0 : Addr) (q1 : Int64) (ta : Addr) (kt : ClassId) (rr st d B : Int64) (h0 : Heap) (n0 : Nat) (Z0 : n0 ≤ h0.size) (E0 : Exa Z h0 o0 "com/example/dialtone/dialtone/workload/Workers$Sharing") (g_o0 : n0 ≤ o0) (g_ta : n0 ≤ ta) (ne_ta_o0 : ta ≠ o0) (P_nanosPerStep : Fld Z h0 o0 "com/example/dialtone/dialtone/workload/Workers$Sharing" "nanosPerStep" "[D" (.ref ta)) (P_rounds : Fld Z h0 o0 "com/example/dialtone/dialtone/workload/Workers$Sharing" "rounds" "J" (.long rr)) (P_otherWay : Fld Z h0 o0 "com/example/dialtone/dialtone/workload/Workers$Sharing" "otherWay" "Z" (.int (0 : Int32))) (P_started : Fld Z h0 o0 "com/example/dialtone/dialtone/workload/Workers$Sharing" "started" "J" (.long st)) (P_shared : Fld Z h0 o0 "com/example/dialtone/dialtone/workload/Workers$Sharing" "shared" "Z" (.int (1 : Int32))) (P_steps : Fld Z h0 o0 "com/example/dialtone/dialtone/workload/Workers$Sharing" "steps" "J" (.long (1 : Int64))) (P_sharedOverUnshared : Fld Z h0 o0 "com/example/dialtone/dialtone/workload/Workers$Sharing" "sharedOverUnshared" "D" (.double (0 : UInt64))) (VT : Arv Z h0 ta kt .double (2 : Int32) [(.double (FP.l2d (0 : Int64))), (.double (FP.l2d B))] (.double (0 : UInt64))) (hd : q1 - st = d) (cd : own_ct d) (cB : own_ct B) :
    MetFree l (⟨"com/example/dialtone/dialtone/workload/Workers$Sharing", "ended", "(J)V"⟩ : MethodName) (head1 (Jvm.Cond.code (⟨"com/example/dialtone/dialtone/workload/Workers$Sharing", "ended", "(J)V"⟩ : MethodName) prog_268_method_5_code 8 none :: ws) ({ frames := 1, cells := 0, slots := 0, locals := 20 } : Room)) (fun a U => a = #[(.ref o0), (.long q1)] ∧ Z.Warmed39 U.vm ∧ U.heap = h0) (fun _ _ _ _ _ => True) (fun _ U o U' => ∃ v L, o = .returned v ∧ Q_rm6_1a Z o0 q1 ta kt rr st d B h0 n0 v U'.heap L ∧ FrameEnd U o U' L ({ frames := 1, cells := 0, slots := 0, locals := 20 } : Room).cells ({ frames := 1, cells := 0, slots := 0, locals := 20 } : Room).slots) := by
  refine MetFree.of_bodySF (plainFor_of_name pn_com_example_dialtone_dialtone_workload_Workers_Sharing) hisR ?_
  intro p e s m args below meth c s₁ Bd hml0 hP hK
  obtain ⟨rfl, hZ, hh⟩ := hP
  have hx := Bd.exec
  have hby := Bd.bytes
  have hlk := BodyLoose.notSynchronized Bd
  have hrt := Bd.returns
  have hml : c.maxLocals = 8 := hml0
  have hown : s.vm.findClass "com/example/dialtone/dialtone/workload/Workers$Sharing" = some m.cls := findClass_of_methodNamed Bd.named
  have hnm := (name_of_methodNamed Bd.named Bd.method).1
  have X0 : Stand p l e ({ frames := 1, cells := 0, slots := 0, locals := 20 } : Room) s m #[(.ref o0), (.long q1)] below meth c s₁ [] 0 0 := Stand.of_body Bd
  have e0 : s₁.heap = h0 := by rw [← hh, Bd.state]; rfl
  have N0 := Fr.nil n0
  have K0 : Keep h0 h0 [o0, ta] := Keep.refl h0 _
  show Runs p e below (QE s (Q_rm6_1a Z o0 q1 ta kt rr st d B h0 n0) ({ frames := 1, cells := 0, slots := 0, locals := 20 } : Room).cells ({ frames := 1, cells := 0, slots := 0, locals := 20 } : Room).slots) (s₁.setTop (entryFrame m #[(.ref o0), (.long q1)] 8))
  rw [ef_6_6 m o0 q1]
  refine Runs.by (fun _ hr => XS.aloadN X0.here hx rfl (hb hby d6_0) rfl rfl hr) ?_
  show Runs p e below _ (s₁.setTop (mkF m 1 #[.val (.ref o0), .val (.long q1), .second, .unset, .unset, .unset, .unset, .unset] [(.ref o0)]))
  obtain ⟨T1, X1, e1, st1⟩ := getF X0 hx hZ hown (host := "") (Or.inl (hw _ (List.mem_of_getElem? (i := 27) rfl))) Via.refl e0 P_started (g := (mkF m 1 #[.val (.ref o0), .val (.long q1), .second, .unset, .unset, .unset, .unset, .unset] [(.ref o0)])) rfl rfl (hb hby d6_1)
  refine Runs.by st1 ?_
  refine Runs.by (fun _ hr => XS.lconst X1.here hx rfl (hb hby d6_4) hr) ?_
  refine Runs.by (fun _ hr => XS.lcmp X1.here hx rfl (hb hby d6_5) rfl hr) ?_
  show Runs p e below _ (T1.setTop (mkF m 6 #[.val (.ref o0), .val (.long q1), .second, .unset, .unset, .unset, .unset, .unset] [(.int (lcmpW st (0 : Int64)))]))
  by_cases hc6 : (lcmpW st (0 : Int64)) = (0 : Int32)
  · -- pc 6: (lcmpW st (0 : Int64)) = (0 : Int32)
    refine Runs.by (fun _ hr => XS.ifYes X1.here hx rfl (pc0 := 6) (pc' := 166) rfl (hb hby d6_6) rfl ((if0 _ _).trans (teq hc6).1) (by decide) (by decide) hr) ?_
    refine Runs.by (fun _ hr => XS.aloadN X1.here hx rfl (hb hby d6_166) rfl rfl hr) ?_
    refine Runs.by (fun _ hr => XS.lconst X1.here hx rfl (hb hby d6_167) hr) ?_
    show Runs p e below _ (T1.setTop (mkF m 168 #[.val (.ref o0), .val (.long q1), .second, .unset, .unset, .unset, .unset, .unset] [(.long (0 : Int64)), (.ref o0)]))
    obtain ⟨T2, h2, X2, e2, W2, st2⟩ := putF X1 hx hZ hown (host := "") (Or.inl (hw _ (List.mem_of_getElem? (i := 27) rfl))) Via.refl e1 P_started E0 (Or.inl (hw _ (List.mem_of_getElem? (i := 28) rfl))) (hw _ (List.mem_of_getElem? (i := 2) rfl)) (ty := .long) (by decide) rfl rfl (g := (mkF m 168 #[.val (.ref o0), .val (.long q1), .second, .unset, .unset, .unset, .unset, .unset] [(.long (0 : Int64)), (.ref o0)])) rfl rfl (hb hby d6_168)
    have Fw2 := P_started.same W2
    have K3 : Keep h0 h2 [o0, ta] := K0.wr W2 (Or.inl (List.mem_of_getElem? (i := 0) rfl))
    have N2 := Fr.snoc X2 N0 g_o0
    refine Runs.by st2 ?_
    show Runs p e below _ (T2.setTop (mkF m 171 #[.val (.ref o0), .val (.long q1), .second, .unset, .unset, .unset, .unset, .unset] []))
    refine Runs.retV X2 hx hrt hlk (hb hby d6_171) (by decide) (by decide) ?_
    rw [e2]
    unfold Q_rm6_1a
    have hst : st = 0 := own_lcz.mp hc6
    rw [own_X, if_pos hst]
    exact ⟨rfl, N2, K3, (E0.wr W2), (P_nanosPerStep.other W2 (Or.inr (slot_ne (Or.inr (hw _ (List.mem_of_getElem? (i := 12) rfl))) (Or.inl (hw _ (List.mem_of_getElem? (i := 28) rfl))) (by decide) (t := (.array .double)) (t' := .long) (by decide) (by decide)))), (P_rounds.other W2 (Or.inr (slot_ne (Or.inl (hw _ (List.mem_of_getElem? (i := 19) rfl))) (Or.inl (hw _ (List.mem_of_getElem? (i := 28) rfl))) (by decide) (t := .long) (t' := .long) (by decide) (by decide)))), (P_otherWay.other W2 (Or.inr (slot_ne (Or.inl (hw _ (List.mem_of_getElem? (i := 21) rfl))) (Or.inl (hw _ (List.mem_of_getElem? (i := 28) rfl))) (by decide) (t := .boolean) (t' := .long) (by decide) (by decide)))), Fw2, (P_shared.other W2 (Or.inr (slot_ne (Or.inl (hw _ (List.mem_of_getElem? (i := 30) rfl))) (Or.inl (hw _ (List.mem_of_getElem? (i := 28) rfl))) (by decide) (t := .boolean) (t' := .long) (by decide) (by decide)))), (P_steps.other W2 (Or.inr (slot_ne (Or.inl (hw _ (List.mem_of_getElem? (i := 32) rfl))) (Or.inl (hw _ (List.mem_of_getElem? (i := 28) rfl))) (by decide) (t := .long) (t' := .long) (by decide) (by decide)))), (P_sharedOverUnshared.other W2 (Or.inr (slot_ne (Or.inl (hw _ (List.mem_of_getElem? (i := 47) rfl))) (Or.inl (hw _ (List.mem_of_getElem? (i := 28) rfl))) (by decide) (t := .double) (t' := .long) (by decide) (by decide)))), (VT.other W2 ne_ta_o0)⟩
  · -- pc 6: not (lcmpW st (0 : Int64)) = (0 : Int32)
    refine Runs.by (fun _ hr => XS.ifNo X1.here hx rfl (hb hby d6_6) rfl ((if0 _ _).trans (feq hc6).1) hr) ?_
    refine Runs.by (fun _ hr => XS.aloadN X1.here hx rfl (hb hby d6_9) rfl rfl hr) ?_
    show Runs p e below _ (T1.setTop (mkF m 10 #[.val (.ref o0), .val (.long q1), .second, .unset, .unset, .unset, .unset, .unset] [(.ref o0)]))
    obtain ⟨T4, X4, e4, st4⟩ := getF X1 hx hZ hown (host := "") (Or.inl (hw _ (List.mem_of_getElem? (i := 31) rfl))) Via.refl e1 P_steps (g := (mkF m 10 #[.val (.ref o0), .val (.long q1), .second, .unset, .unset, .unset, .unset, .unset] [(.ref o0)])) rfl rfl (hb hby d6_10)
    refine Runs.by st4 ?_
    refine Runs.by (fun _ hr => XS.lconst X4.here hx rfl (hb hby d6_13) hr) ?_
    refine Runs.by (fun _ hr => XS.lcmp X4.here hx rfl (hb hby d6_14) rfl hr) ?_
    show Runs p e below _ (T4.setTop (mkF m 15 #[.val (.ref o0), .val (.long q1), .second, .unset, .unset, .unset, .unset, .unset] [(.int (lcmpW (1 : Int64) (0 : Int64)))]))
    have hc15 : (0 : Int32) < (lcmpW (1 : Int64) (0 : Int64)) := (by decide)
    refine Runs.by (fun _ hr => XS.ifNo X4.here hx rfl (hb hby d6_15) rfl ((if0 _ _).trans (tlt hc15).2.2.2) hr) ?_
    refine Runs.by (fun _ hr => XS.lloadN X4.here hx rfl (hb hby d6_18) rfl  hr) ?_
    refine Runs.by (fun _ hr => XS.aloadN X4.here hx rfl (hb hby d6_19) rfl rfl hr) ?_
    show Runs p e below _ (T4.setTop (mkF m 20 #[.val (.ref o0), .val (.long q1), .second, .unset, .unset, .unset, .unset, .unset] [(.ref o0), (.long q1)]))
    obtain ⟨T5, X5, e5, st5⟩ := getF X4 hx hZ hown (host := "") (Or.inl (hw _ (List.mem_of_getElem? (i := 27) rfl))) Via.refl e4 P_started (g := (mkF m 20 #[.val (.ref o0), .val (.long q1), .second, .unset, .unset, .unset, .unset, .unset] [(.ref o0), (.long q1)])) rfl rfl (hb hby d6_20)
    refine Runs.by st5 ?_
    show Runs p e below _ (T5.setTop (mkF m 23 #[.val (.ref o0), .val (.long q1), .second, .unset, .unset, .unset, .unset, .unset] [(.long st), (.long q1)]))
    refine Runs.by (fun _ hr => XS.lsub X5.here hx rfl (hb hby d6_23) rfl hr) ?_
    show Runs p e below _ (T5.setTop (mkF m 24 #[.val (.ref o0), .val (.long q1), .second, .unset, .unset, .unset, .unset, .unset] [(.long (q1 - st))]))
    refine Runs.by (fun _ hr => XS.l2dS X5.here hx rfl (hb hby d6_24) rfl rfl hr) ?_
    refine Runs.by (fun _ hr => XS.aloadN X5.here hx rfl (hb hby d6_25) rfl rfl hr) ?_
    show Runs p e below _ (T5.setTop (mkF m 26 #[.val (.ref o0), .val (.long q1), .second, .unset, .unset, .unset, .unset, .unset] [(.ref o0), (.double (FP.l2d (q1 - st)))]))
    obtain ⟨T6, X6, e6, st6⟩ := getF X5 hx hZ hown (host := "") (Or.inl (hw _ (List.mem_of_getElem? (i := 31) rfl))) Via.refl e5 P_steps (g := (mkF m 26 #[.val (.ref o0), .val (.long q1), .second, .unset, .unset, .unset, .unset, .unset] [(.ref o0), (.double (FP.l2d (q1 - st)))])) rfl rfl (hb hby d6_26)
    refine Runs.by st6 ?_
    show Runs p e below _ (T6.setTop (mkF m 29 #[.val (.ref o0), .val (.long q1), .second, .unset, .unset, .unset, .unset, .unset] [(.long (1 : Int64)), (.double (FP.l2d (q1 - st)))]))
    refine Runs.by (fun _ hr => XS.l2dS X6.here hx rfl (hb hby d6_29) rfl rfl hr) ?_
    show Runs p e below _ (T6.setTop (mkF m 30 #[.val (.ref o0), .val (.long q1), .second, .unset, .unset, .unset, .unset, .unset] [(.double (FP.l2d (1 : Int64))), (.double (FP.l2d (q1 - st)))]))
    refine Runs.by (fun _ hr => XS.ddivS X6.here hx rfl (hb hby d6_30) rfl (own_nn1 _) rfl hr) ?_
    rw [own_ddiv1, hd]
    refine Runs.by (fun _ hr => XS.dstoreN X6.here hx rfl (hb hby d6_31) rfl (l' := #[.val (.ref o0), .val (.long q1), .second, .val (.double (FP.l2d d)), .second, .unset, .unset, .unset]) rfl hr) ?_
    refine Runs.by (fun _ hr => XS.aloadN X6.here hx rfl (hb hby d6_32) rfl rfl hr) ?_
    show Runs p e below _ (T6.setTop (mkF m 33 #[.val (.ref o0), .val (.long q1), .second, .val (.double (FP.l2d d)), .second, .unset, .unset, .unset] [(.ref o0)]))
    obtain ⟨T7, X7, e7, st7⟩ := getF X6 hx hZ hown (host := "") (Or.inl (hw _ (List.mem_of_getElem? (i := 29) rfl))) Via.refl e6 P_shared (g := (mkF m 33 #[.val (.ref o0), .val (.long q1), .second, .val (.double (FP.l2d d)), .second, .unset, .unset, .unset] [(.ref o0)])) rfl rfl (hb hby d6_33)
    refine Runs.by st7 ?_
    have hc36 : ¬ ((1 : Int32) = (0 : Int32)) := (by decide)
    refine Runs.by (fun _ hr => XS.ifNo X7.here hx rfl (hb hby d6_36) rfl ((if0 _ _).trans (feq hc36).1) hr) ?_
    refine Runs.by (fun _ hr => XS.iconst X7.here hx rfl (hb hby d6_39) hr) ?_
    show Runs p e below _ (T7.setTop (mkF m 40 #[.val (.ref o0), .val (.long q1), .second, .val (.double (FP.l2d d)), .second, .unset, .unset, .unset] [(.int (1 : Int32))]))
    refine Runs.by (fun _ hr => XS.goto X7.here hx rfl (pc0 := 40) (pc' := 44) rfl (hb hby d6_40) (by decide) (by decide) hr) ?_
    refine Runs.by (fun _ hr => XS.istore X7.here hx rfl (hb hby d6_44) rfl (l' := #[.val (.ref o0), .val (.long q1), .second, .val (.double (FP.l2d d)), .second, .val (.int (1 : Int32)), .unset, .unset]) rfl hr) ?_
    refine Runs.by (fun _ hr => XS.aloadN X7.here hx rfl (hb hby d6_46) rfl rfl hr) ?_
    show Runs p e below _ (T7.setTop (mkF m 47 #[.val (.ref o0), .val (.long q1), .second, .val (.double (FP.l2d d)), .second, .val (.int (1 : Int32)), .unset, .unset] [(.ref o0)]))
    obtain ⟨T8, X8, e8, st8⟩ := getF X7 hx hZ hown (host := "") (Or.inl (hw _ (List.mem_of_getElem? (i := 20) rfl))) Via.refl e7 P_otherWay (g := (mkF m 47 #[.val (.ref o0), .val (.long q1), .second, .val (.double (FP.l2d d)), .second, .val (.int (1 : Int32)), .unset, .unset] [(.ref o0)])) rfl rfl (hb hby d6_47)
    refine Runs.by st8 ?_
    have hc50 : (0 : Int32) = (0 : Int32) := (by decide)
    refine Runs.by (fun _ hr => XS.ifYes X8.here hx rfl (pc0 := 50) (pc' := 108) rfl (hb hby d6_50) rfl ((if0 _ _).trans (teq hc50).1) (by decide) (by decide) hr) ?_
    refine Runs.by (fun _ hr => XS.aloadN X8.here hx rfl (hb hby d6_108) rfl rfl hr) ?_
    show Runs p e below _ (T8.setTop (mkF m 109 #[.val (.ref o0), .val (.long q1), .second, .val (.double (FP.l2d d)), .second, .val (.int (1 : Int32)), .unset, .unset] [(.ref o0)]))
    obtain ⟨T9, X9, e9, st9⟩ := getF X8 hx hZ hown (host := "") (Or.inl (hw _ (List.mem_of_getElem? (i := 11) rfl))) Via.refl e8 P_nanosPerStep (g := (mkF m 109 #[.val (.ref o0), .val (.long q1), .second, .val (.double (FP.l2d d)), .second, .val (.int (1 : Int32)), .unset, .unset] [(.ref o0)])) rfl rfl (hb hby d6_109)
    refine Runs.by st9 ?_
    refine Runs.by (fun _ hr => XS.iload X9.here hx rfl (hb hby d6_112) rfl  hr) ?_
    refine Runs.by (fun _ hr => XS.aloadN X9.here hx rfl (hb hby d6_114) rfl rfl hr) ?_
    show Runs p e below _ (T9.setTop (mkF m 115 #[.val (.ref o0), .val (.long q1), .second, .val (.double (FP.l2d d)), .second, .val (.int (1 : Int32)), .unset, .unset] [(.ref o0), (.int (1 : Int32)), (.ref ta)]))
    obtain ⟨T10, X10, e10, st10⟩ := getF X9 hx hZ hown (host := "") (Or.inl (hw _ (List.mem_of_getElem? (i := 11) rfl))) Via.refl e9 P_nanosPerStep (g := (mkF m 115 #[.val (.ref o0), .val (.long q1), .second, .val (.double (FP.l2d d)), .second, .val (.int (1 : Int32)), .unset, .unset] [(.ref o0), (.int (1 : Int32)), (.ref ta)])) rfl rfl (hb hby d6_115)
    refine Runs.by st10 ?_
    refine Runs.by (fun _ hr => XS.iload X10.here hx rfl (hb hby d6_118) rfl  hr) ?_
    show Runs p e below _ (T10.setTop (mkF m 120 #[.val (.ref o0), .val (.long q1), .second, .val (.double (FP.l2d d)), .second, .val (.int (1 : Int32)), .unset, .unset] [(.int (1 : Int32)), (.ref ta), (.int (1 : Int32)), (.ref ta)]))
    obtain ⟨cl11, Ar11, -, S11, N11', H11, -⟩ := id VT
    have hin11 : ¬ ((1 : Int32) < 0 ∨ cl11.slots.size ≤ ((1 : Int32)).toNatClampNeg) := inb_of S11 ⟨by decide, by decide⟩
    have hat11 := H11.at hin11 (v := (.double (FP.l2d B))) rfl
    refine Runs.by (fun t hr => X10.daload hx (j := (1 : Int32)) (v := (.double (FP.l2d B))) (by rw [e10]; exact Ar11.1) (State.isArrayOf_alike hZ.alike Ar11.2.1) Ar11.2.2 hin11 hat11 (g := (mkF m 120 #[.val (.ref o0), .val (.long q1), .second, .val (.double (FP.l2d d)), .second, .val (.int (1 : Int32)), .unset, .unset] [(.int (1 : Int32)), (.ref ta), (.int (1 : Int32)), (.ref ta)])) rfl rfl (hb hby d6_120) t hr) ?_
    refine Runs.by (fun _ hr => XS.dloadN X10.here hx rfl (hb hby d6_121) rfl  hr) ?_
    by_cases hB : B = 0
    · skip
      show Runs p e below _ (T10.setTop (mkF m 122 #[.val (.ref o0), .val (.long q1), .second, .val (.double (FP.l2d d)), .second, .val (.int (1 : Int32)), .unset, .unset] [(.double (FP.l2d d)), (.double (FP.l2d B)), (.int (1 : Int32)), (.ref ta)]))
      obtain ⟨_, _, ⟨T12, L12, k12, n12⟩, -, X12, ⟨Lc12, hQ12, l12, y12, z12⟩, st12⟩ := Jvm.LawKit.callS X10 hx (y := (⟨"com/example/dialtone/dialtone/workload/Workers$Sharing", "average", "(DD)D"⟩ : MethodName)) hown (mvT hZ (hw _ (List.mem_of_getElem? (i := 43) rfl))) (mvT hZ (hw _ (List.mem_of_getElem? (i := 44) rfl))) (mvT hZ (hw _ (List.mem_of_getElem? (i := 3) rfl))) (mvT hZ (hw _ (List.mem_of_getElem? (i := 45) rfl))) (by decide) (backOf (W := 2) (rm7a l Z a0 hw [] (FP.l2d B) (FP.l2d d)  h0 n0 (Nat.le_trans Z0 K0.1) (by rw [hB]; exact own_c00)) hZ (hw _ (List.mem_of_getElem? (i := 45) rfl)) (hw _ (List.mem_of_getElem? (i := 3) rfl)) (by decide) (by decide)) (g := (mkF m 122 #[.val (.ref o0), .val (.long q1), .second, .val (.double (FP.l2d d)), .second, .val (.int (1 : Int32)), .unset, .unset] [(.double (FP.l2d d)), (.double (FP.l2d B)), (.int (1 : Int32)), (.ref ta)])) rfl (by rw [hml]; rfl) (argsL := [(.double (FP.l2d B)), (.double (FP.l2d d))]) (rest := [(.int (1 : Int32)), (.ref ta)]) (lenOf pd_0 rfl) rfl (by show 2 * 0 + _ ≤ _; exact Nat.le_of_eq rfl) (hb hby d6_122) (fun _ _ => ⟨rfl, e10, (by decide : 0 + 0 ≤ _), (by decide : 0 + 0 ≤ _)⟩)
      dsimp only [Pt.U, Pt.locs, Pt.cells, Pt.slots] at X12 l12 y12 z12 st12 hQ12
      subst l12 y12 z12
      obtain ⟨rfl, Nq12, eq12⟩ := hQ12
      have N12 := Fr.app N0 Nq12
      refine Runs.by (fun t hr => st12 t hr) ?_
      show Runs p e below _ (T12.setTop (mkF m 125 #[.val (.ref o0), .val (.long q1), .second, .val (.double (FP.l2d d)), .second, .val (.int (1 : Int32)), .unset, .unset] [(.double (FP.l2d d)), (.int (1 : Int32)), (.ref ta)]))
      obtain ⟨cl13, Ar13, q13, S13, N13', H13, G13⟩ := id VT
      have hin13 : ¬ ((1 : Int32) < 0 ∨ cl13.slots.size ≤ ((1 : Int32)).toNatClampNeg) := inb_of S13 ⟨by decide, by decide⟩
      obtain ⟨T13, h13, X13, e13, W13, st13⟩ := stD X12 hx hZ eq12 Ar13 (j := (1 : Int32)) hin13 (g := (mkF m 125 #[.val (.ref o0), .val (.long q1), .second, .val (.double (FP.l2d d)), .second, .val (.int (1 : Int32)), .unset, .unset] [(.double (FP.l2d d)), (.int (1 : Int32)), (.ref ta)])) rfl rfl (hb hby d6_125)
      have V13 : Arv Z h13 ta kt .double (2 : Int32) [(.double (FP.l2d (0 : Int64))), (.double (FP.l2d d))] (.double (0 : UInt64)) := Arv.set Ar13 q13 S13 N13' H13 G13 rfl W13 (1) rfl (Nat.le_of_ble_eq_true rfl)
      have K14 : Keep h0 h13 [o0, ta] := K0.wr W13 (Or.inl (List.mem_of_getElem? (i := 1) rfl))
      have N13 := Fr.snoc X13 N12 g_ta
      refine Runs.by st13 ?_
      refine Runs.by (fun _ hr => XS.aloadN X13.here hx rfl (hb hby d6_126) rfl rfl hr) ?_
      show Runs p e below _ (T13.setTop (mkF m 127 #[.val (.ref o0), .val (.long q1), .second, .val (.double (FP.l2d d)), .second, .val (.int (1 : Int32)), .unset, .unset] [(.ref o0)]))
      obtain ⟨T15, X15, e15, st15⟩ := getF X13 hx hZ hown (host := "") (Or.inl (hw _ (List.mem_of_getElem? (i := 46) rfl))) Via.refl e13 (P_sharedOverUnshared.other W13 (Or.inl (Ne.symm ne_ta_o0))) (g := (mkF m 127 #[.val (.ref o0), .val (.long q1), .second, .val (.double (FP.l2d d)), .second, .val (.int (1 : Int32)), .unset, .unset] [(.ref o0)])) rfl rfl (hb hby d6_127)
      refine Runs.by st15 ?_
      refine Runs.by (fun _ hr => XS.dconst0 X15.here hx rfl (hb hby d6_130) rfl hr) ?_
      show Runs p e below _ (T15.setTop (mkF m 131 #[.val (.ref o0), .val (.long q1), .second, .val (.double (FP.l2d d)), .second, .val (.int (1 : Int32)), .unset, .unset] [(.double FP.dconst0), (.double (0 : UInt64))]))
      refine Runs.by (fun _ hr => XS.dcmpS X15.here hx rfl (hb hby d6_131) rfl rfl hr) ?_
      have hc132 : (cmpValue (FP.dcmp (0 : UInt64) FP.dconst0) .l) = (0 : Int32) := own_cz
      refine Runs.by (fun _ hr => XS.ifNo X15.here hx rfl (hb hby d6_132) rfl ((if0 _ _).trans (teq hc132).2) hr) ?_
      refine Runs.by (fun _ hr => XS.aloadN X15.here hx rfl (hb hby d6_135) rfl rfl hr) ?_
      show Runs p e below _ (T15.setTop (mkF m 136 #[.val (.ref o0), .val (.long q1), .second, .val (.double (FP.l2d d)), .second, .val (.int (1 : Int32)), .unset, .unset] [(.ref o0)]))
      obtain ⟨T16, X16, e16, st16⟩ := getF X15 hx hZ hown (host := "") (Or.inl (hw _ (List.mem_of_getElem? (i := 11) rfl))) Via.refl e15 (P_nanosPerStep.other W13 (Or.inl (Ne.symm ne_ta_o0))) (g := (mkF m 136 #[.val (.ref o0), .val (.long q1), .second, .val (.double (FP.l2d d)), .second, .val (.int (1 : Int32)), .unset, .unset] [(.ref o0)])) rfl rfl (hb hby d6_136)
      refine Runs.by st16 ?_
      refine Runs.by (fun _ hr => XS.iconst X16.here hx rfl (hb hby d6_139) hr) ?_
      refine Runs.by (fun _ hr => XS.iload X16.here hx rfl (hb hby d6_140) rfl  hr) ?_
      show Runs p e below _ (T16.setTop (mkF m 142 #[.val (.ref o0), .val (.long q1), .second, .val (.double (FP.l2d d)), .second, .val (.int (1 : Int32)), .unset, .unset] [(.int (1 : Int32)), (.int (1 : Int32)), (.ref ta)]))
      refine Runs.by (fun _ hr => XS.isub X16.here hx rfl (hb hby d6_142) rfl hr) ?_
      show Runs p e below _ (T16.setTop (mkF m 143 #[.val (.ref o0), .val (.long q1), .second, .val (.double (FP.l2d d)), .second, .val (.int (1 : Int32)), .unset, .unset] [(.int (0 : Int32)), (.ref ta)]))
      obtain ⟨cl17, Ar17, -, S17, N17', H17, -⟩ := id V13
      have hin17 : ¬ ((0 : Int32) < 0 ∨ cl17.slots.size ≤ ((0 : Int32)).toNatClampNeg) := inb_of S17 ⟨by decide, by decide⟩
      have hat17 := H17.at hin17 (v := (.double (FP.l2d (0 : Int64)))) rfl
      refine Runs.by (fun t hr => X16.daload hx (j := (0 : Int32)) (v := (.double (FP.l2d (0 : Int64)))) (by rw [e16]; exact Ar17.1) (State.isArrayOf_alike hZ.alike Ar17.2.1) Ar17.2.2 hin17 hat17 (g := (mkF m 143 #[.val (.ref o0), .val (.long q1), .second, .val (.double (FP.l2d d)), .second, .val (.int (1 : Int32)), .unset, .unset] [(.int (0 : Int32)), (.ref ta)])) rfl rfl (hb hby d6_143) t hr) ?_
      refine Runs.by (fun _ hr => XS.dconst0 X16.here hx rfl (hb hby d6_144) rfl hr) ?_
      show Runs p e below _ (T16.setTop (mkF m 145 #[.val (.ref o0), .val (.long q1), .second, .val (.double (FP.l2d d)), .second, .val (.int (1 : Int32)), .unset, .unset] [(.double FP.dconst0), (.double (FP.l2d (0 : Int64)))]))
      refine Runs.by (fun _ hr => XS.dcmpS X16.here hx rfl (hb hby d6_145) rfl rfl hr) ?_
      have hc146 : (cmpValue (FP.dcmp (FP.l2d (0 : Int64)) FP.dconst0) .l) = (0 : Int32) := own_c00
      refine Runs.by (fun _ hr => XS.ifYes X16.here hx rfl (pc0 := 146) (pc' := 166) rfl (hb hby d6_146) rfl ((if0 _ _).trans (teq hc146).1) (by decide) (by decide) hr) ?_
      refine Runs.by (fun _ hr => XS.aloadN X16.here hx rfl (hb hby d6_166) rfl rfl hr) ?_
      show Runs p e below _ (T16.setTop (mkF m 167 #[.val (.ref o0), .val (.long q1), .second, .val (.double (FP.l2d d)), .second, .val (.int (1 : Int32)), .unset, .unset] [(.ref o0)]))
      refine Runs.by (fun _ hr => XS.lconst X16.here hx rfl (hb hby d6_167) hr) ?_
      show Runs p e below _ (T16.setTop (mkF m 168 #[.val (.ref o0), .val (.long q1), .second, .val (.double (FP.l2d d)), .second, .val (.int (1 : Int32)), .unset, .unset] [(.long (0 : Int64)), (.ref o0)]))
      obtain ⟨T18, h18, X18, e18, W18, st18⟩ := putF X16 hx hZ hown (host := "") (Or.inl (hw _ (List.mem_of_getElem? (i := 27) rfl))) Via.refl e16 (P_started.other W13 (Or.inl (Ne.symm ne_ta_o0))) (E0.wr W13) (Or.inl (hw _ (List.mem_of_getElem? (i := 28) rfl))) (hw _ (List.mem_of_getElem? (i := 2) rfl)) (ty := .long) (by decide) rfl rfl (g := (mkF m 168 #[.val (.ref o0), .val (.long q1), .second, .val (.double (FP.l2d d)), .second, .val (.int (1 : Int32)), .unset, .unset] [(.long (0 : Int64)), (.ref o0)])) rfl rfl (hb hby d6_168)
      have Fw18 := (P_started.other W13 (Or.inl (Ne.symm ne_ta_o0))).same W18
      have K19 : Keep h0 h18 [o0, ta] := K14.wr W18 (Or.inl (List.mem_of_getElem? (i := 0) rfl))
      have N18 := Fr.snoc X18 N13 g_o0
      refine Runs.by st18 ?_
      show Runs p e below _ (T18.setTop (mkF m 171 #[.val (.ref o0), .val (.long q1), .second, .val (.double (FP.l2d d)), .second, .val (.int (1 : Int32)), .unset, .unset] []))
      refine Runs.retV X18 hx hrt hlk (hb hby d6_171) (by decide) (by decide) ?_
      rw [e18]
      unfold Q_rm6_1a
      have hst : ¬ st = 0 := fun z => hc6 (own_lcz.mpr z)
      rw [own_X, if_neg hst, if_pos hB]
      exact ⟨rfl, N18, K19, ((E0.wr W13).wr W18), ((P_nanosPerStep.other W13 (Or.inl (Ne.symm ne_ta_o0))).other W18 (Or.inr (slot_ne (Or.inr (hw _ (List.mem_of_getElem? (i := 12) rfl))) (Or.inl (hw _ (List.mem_of_getElem? (i := 28) rfl))) (by decide) (t := (.array .double)) (t' := .long) (by decide) (by decide)))), ((P_rounds.other W13 (Or.inl (Ne.symm ne_ta_o0))).other W18 (Or.inr (slot_ne (Or.inl (hw _ (List.mem_of_getElem? (i := 19) rfl))) (Or.inl (hw _ (List.mem_of_getElem? (i := 28) rfl))) (by decide) (t := .long) (t' := .long) (by decide) (by decide)))), ((P_otherWay.other W13 (Or.inl (Ne.symm ne_ta_o0))).other W18 (Or.inr (slot_ne (Or.inl (hw _ (List.mem_of_getElem? (i := 21) rfl))) (Or.inl (hw _ (List.mem_of_getElem? (i := 28) rfl))) (by decide) (t := .boolean) (t' := .long) (by decide) (by decide)))), Fw18, ((P_shared.other W13 (Or.inl (Ne.symm ne_ta_o0))).other W18 (Or.inr (slot_ne (Or.inl (hw _ (List.mem_of_getElem? (i := 30) rfl))) (Or.inl (hw _ (List.mem_of_getElem? (i := 28) rfl))) (by decide) (t := .boolean) (t' := .long) (by decide) (by decide)))), ((P_steps.other W13 (Or.inl (Ne.symm ne_ta_o0))).other W18 (Or.inr (slot_ne (Or.inl (hw _ (List.mem_of_getElem? (i := 32) rfl))) (Or.inl (hw _ (List.mem_of_getElem? (i := 28) rfl))) (by decide) (t := .long) (t' := .long) (by decide) (by decide)))), ((P_sharedOverUnshared.other W13 (Or.inl (Ne.symm ne_ta_o0))).other W18 (Or.inr (slot_ne (Or.inl (hw _ (List.mem_of_getElem? (i := 47) rfl))) (Or.inl (hw _ (List.mem_of_getElem? (i := 28) rfl))) (by decide) (t := .double) (t' := .long) (by decide) (by decide)))), (V13.other W18 ne_ta_o0)⟩
    · skip
      show Runs p e below _ (T10.setTop (mkF m 122 #[.val (.ref o0), .val (.long q1), .second, .val (.double (FP.l2d d)), .second, .val (.int (1 : Int32)), .unset, .unset] [(.double (FP.l2d d)), (.double (FP.l2d B)), (.int (1 : Int32)), (.ref ta)]))
      obtain ⟨_, _, ⟨T20, L20, k20, n20⟩, -, X20, ⟨Lc20, hQ20, l20, y20, z20⟩, st20⟩ := Jvm.LawKit.callS X10 hx (y := (⟨"com/example/dialtone/dialtone/workload/Workers$Sharing", "average", "(DD)D"⟩ : MethodName)) hown (mvT hZ (hw _ (List.mem_of_getElem? (i := 43) rfl))) (mvT hZ (hw _ (List.mem_of_getElem? (i := 44) rfl))) (mvT hZ (hw _ (List.mem_of_getElem? (i := 3) rfl))) (mvT hZ (hw _ (List.mem_of_getElem? (i := 45) rfl))) (by decide) (backOf (W := 2) (rm7b l Z a0 hw [] (FP.l2d B) (FP.l2d d)  h0 n0 (Nat.le_trans Z0 K0.1) (own_av cB cd hB).1 (own_av cB cd hB).2.1 (own_av cB cd hB).2.2.1 (fun z => hB ((own_cA cB).mp z))) hZ (hw _ (List.mem_of_getElem? (i := 45) rfl)) (hw _ (List.mem_of_getElem? (i := 3) rfl)) (by decide) (by decide)) (g := (mkF m 122 #[.val (.ref o0), .val (.long q1), .second, .val (.double (FP.l2d d)), .second, .val (.int (1 : Int32)), .unset, .unset] [(.double (FP.l2d d)), (.double (FP.l2d B)), (.int (1 : Int32)), (.ref ta)])) rfl (by rw [hml]; rfl) (argsL := [(.double (FP.l2d B)), (.double (FP.l2d d))]) (rest := [(.int (1 : Int32)), (.ref ta)]) (lenOf pd_0 rfl) rfl (by show 2 * 0 + _ ≤ _; exact Nat.le_of_eq rfl) (hb hby d6_122) (fun _ _ => ⟨rfl, e10, (by decide : 0 + 0 ≤ _), (by decide : 0 + 0 ≤ _)⟩)
      dsimp only [Pt.U, Pt.locs, Pt.cells, Pt.slots] at X20 l20 y20 z20 st20 hQ20
      subst l20 y20 z20
      obtain ⟨rfl, Nq20, eq20⟩ := hQ20
      have N20 := Fr.app N0 Nq20
      refine Runs.by (fun t hr => st20 t hr) ?_
      show Runs p e below _ (T20.setTop (mkF m 125 #[.val (.ref o0), .val (.long q1), .second, .val (.double (FP.l2d d)), .second, .val (.int (1 : Int32)), .unset, .unset] [(.double (FP.dadd (FP.l2d B) (FP.dmul (4593671619917905920 : UInt64) (FP.dsub (FP.l2d d) (FP.l2d B))))), (.int (1 : Int32)), (.ref ta)]))
      obtain ⟨cl21, Ar21, q21, S21, N21', H21, G21⟩ := id VT
      have hin21 : ¬ ((1 : Int32) < 0 ∨ cl21.slots.size ≤ ((1 : Int32)).toNatClampNeg) := inb_of S21 ⟨by decide, by decide⟩
      obtain ⟨T21, h21, X21, e21, W21, st21⟩ := stD X20 hx hZ eq20 Ar21 (j := (1 : Int32)) hin21 (g := (mkF m 125 #[.val (.ref o0), .val (.long q1), .second, .val (.double (FP.l2d d)), .second, .val (.int (1 : Int32)), .unset, .unset] [(.double (FP.dadd (FP.l2d B) (FP.dmul (4593671619917905920 : UInt64) (FP.dsub (FP.l2d d) (FP.l2d B))))), (.int (1 : Int32)), (.ref ta)])) rfl rfl (hb hby d6_125)
      have V21 : Arv Z h21 ta kt .double (2 : Int32) [(.double (FP.l2d (0 : Int64))), (.double (FP.dadd (FP.l2d B) (FP.dmul (4593671619917905920 : UInt64) (FP.dsub (FP.l2d d) (FP.l2d B)))))] (.double (0 : UInt64)) := Arv.set Ar21 q21 S21 N21' H21 G21 rfl W21 (1) rfl (Nat.le_of_ble_eq_true rfl)
      have K22 : Keep h0 h21 [o0, ta] := K0.wr W21 (Or.inl (List.mem_of_getElem? (i := 1) rfl))
      have N21 := Fr.snoc X21 N20 g_ta
      refine Runs.by st21 ?_
      refine Runs.by (fun _ hr => XS.aloadN X21.here hx rfl (hb hby d6_126) rfl rfl hr) ?_
      show Runs p e below _ (T21.setTop (mkF m 127 #[.val (.ref o0), .val (.long q1), .second, .val (.double (FP.l2d d)), .second, .val (.int (1 : Int32)), .unset, .unset] [(.ref o0)]))
      obtain ⟨T23, X23, e23, st23⟩ := getF X21 hx hZ hown (host := "") (Or.inl (hw _ (List.mem_of_getElem? (i := 46) rfl))) Via.refl e21 (P_sharedOverUnshared.other W21 (Or.inl (Ne.symm ne_ta_o0))) (g := (mkF m 127 #[.val (.ref o0), .val (.long q1), .second, .val (.double (FP.l2d d)), .second, .val (.int (1 : Int32)), .unset, .unset] [(.ref o0)])) rfl rfl (hb hby d6_127)
      refine Runs.by st23 ?_
      refine Runs.by (fun _ hr => XS.dconst0 X23.here hx rfl (hb hby d6_130) rfl hr) ?_
      show Runs p e below _ (T23.setTop (mkF m 131 #[.val (.ref o0), .val (.long q1), .second, .val (.double (FP.l2d d)), .second, .val (.int (1 : Int32)), .unset, .unset] [(.double FP.dconst0), (.double (0 : UInt64))]))
      refine Runs.by (fun _ hr => XS.dcmpS X23.here hx rfl (hb hby d6_131) rfl rfl hr) ?_
      have hc132 : (cmpValue (FP.dcmp (0 : UInt64) FP.dconst0) .l) = (0 : Int32) := own_cz
      refine Runs.by (fun _ hr => XS.ifNo X23.here hx rfl (hb hby d6_132) rfl ((if0 _ _).trans (teq hc132).2) hr) ?_
      refine Runs.by (fun _ hr => XS.aloadN X23.here hx rfl (hb hby d6_135) rfl rfl hr) ?_
      show Runs p e below _ (T23.setTop (mkF m 136 #[.val (.ref o0), .val (.long q1), .second, .val (.double (FP.l2d d)), .second, .val (.int (1 : Int32)), .unset, .unset] [(.ref o0)]))
      obtain ⟨T24, X24, e24, st24⟩ := getF X23 hx hZ hown (host := "") (Or.inl (hw _ (List.mem_of_getElem? (i := 11) rfl))) Via.refl e23 (P_nanosPerStep.other W21 (Or.inl (Ne.symm ne_ta_o0))) (g := (mkF m 136 #[.val (.ref o0), .val (.long q1), .second, .val (.double (FP.l2d d)), .second, .val (.int (1 : Int32)), .unset, .unset] [(.ref o0)])) rfl rfl (hb hby d6_136)
      refine Runs.by st24 ?_
      refine Runs.by (fun _ hr => XS.iconst X24.here hx rfl (hb hby d6_139) hr) ?_
      refine Runs.by (fun _ hr => XS.iload X24.here hx rfl (hb hby d6_140) rfl  hr) ?_
      show Runs p e below _ (T24.setTop (mkF m 142 #[.val (.ref o0), .val (.long q1), .second, .val (.double (FP.l2d d)), .second, .val (.int (1 : Int32)), .unset, .unset] [(.int (1 : Int32)), (.int (1 : Int32)), (.ref ta)]))
      refine Runs.by (fun _ hr => XS.isub X24.here hx rfl (hb hby d6_142) rfl hr) ?_
      show Runs p e below _ (T24.setTop (mkF m 143 #[.val (.ref o0), .val (.long q1), .second, .val (.double (FP.l2d d)), .second, .val (.int (1 : Int32)), .unset, .unset] [(.int (0 : Int32)), (.ref ta)]))
      obtain ⟨cl25, Ar25, -, S25, N25', H25, -⟩ := id V21
      have hin25 : ¬ ((0 : Int32) < 0 ∨ cl25.slots.size ≤ ((0 : Int32)).toNatClampNeg) := inb_of S25 ⟨by decide, by decide⟩
      have hat25 := H25.at hin25 (v := (.double (FP.l2d (0 : Int64)))) rfl
      refine Runs.by (fun t hr => X24.daload hx (j := (0 : Int32)) (v := (.double (FP.l2d (0 : Int64)))) (by rw [e24]; exact Ar25.1) (State.isArrayOf_alike hZ.alike Ar25.2.1) Ar25.2.2 hin25 hat25 (g := (mkF m 143 #[.val (.ref o0), .val (.long q1), .second, .val (.double (FP.l2d d)), .second, .val (.int (1 : Int32)), .unset, .unset] [(.int (0 : Int32)), (.ref ta)])) rfl rfl (hb hby d6_143) t hr) ?_
      refine Runs.by (fun _ hr => XS.dconst0 X24.here hx rfl (hb hby d6_144) rfl hr) ?_
      show Runs p e below _ (T24.setTop (mkF m 145 #[.val (.ref o0), .val (.long q1), .second, .val (.double (FP.l2d d)), .second, .val (.int (1 : Int32)), .unset, .unset] [(.double FP.dconst0), (.double (FP.l2d (0 : Int64)))]))
      refine Runs.by (fun _ hr => XS.dcmpS X24.here hx rfl (hb hby d6_145) rfl rfl hr) ?_
      have hc146 : (cmpValue (FP.dcmp (FP.l2d (0 : Int64)) FP.dconst0) .l) = (0 : Int32) := own_c00
      refine Runs.by (fun _ hr => XS.ifYes X24.here hx rfl (pc0 := 146) (pc' := 166) rfl (hb hby d6_146) rfl ((if0 _ _).trans (teq hc146).1) (by decide) (by decide) hr) ?_
      refine Runs.by (fun _ hr => XS.aloadN X24.here hx rfl (hb hby d6_166) rfl rfl hr) ?_
      show Runs p e below _ (T24.setTop (mkF m 167 #[.val (.ref o0), .val (.long q1), .second, .val (.double (FP.l2d d)), .second, .val (.int (1 : Int32)), .unset, .unset] [(.ref o0)]))
      refine Runs.by (fun _ hr => XS.lconst X24.here hx rfl (hb hby d6_167) hr) ?_
      show Runs p e below _ (T24.setTop (mkF m 168 #[.val (.ref o0), .val (.long q1), .second, .val (.double (FP.l2d d)), .second, .val (.int (1 : Int32)), .unset, .unset] [(.long (0 : Int64)), (.ref o0)]))
      obtain ⟨T26, h26, X26, e26, W26, st26⟩ := putF X24 hx hZ hown (host := "") (Or.inl (hw _ (List.mem_of_getElem? (i := 27) rfl))) Via.refl e24 (P_started.other W21 (Or.inl (Ne.symm ne_ta_o0))) (E0.wr W21) (Or.inl (hw _ (List.mem_of_getElem? (i := 28) rfl))) (hw _ (List.mem_of_getElem? (i := 2) rfl)) (ty := .long) (by decide) rfl rfl (g := (mkF m 168 #[.val (.ref o0), .val (.long q1), .second, .val (.double (FP.l2d d)), .second, .val (.int (1 : Int32)), .unset, .unset] [(.long (0 : Int64)), (.ref o0)])) rfl rfl (hb hby d6_168)
      have Fw26 := (P_started.other W21 (Or.inl (Ne.symm ne_ta_o0))).same W26
      have K27 : Keep h0 h26 [o0, ta] := K22.wr W26 (Or.inl (List.mem_of_getElem? (i := 0) rfl))
      have N26 := Fr.snoc X26 N21 g_o0
      refine Runs.by st26 ?_
      show Runs p e below _ (T26.setTop (mkF m 171 #[.val (.ref o0), .val (.long q1), .second, .val (.double (FP.l2d d)), .second, .val (.int (1 : Int32)), .unset, .unset] []))
      refine Runs.retV X26 hx hrt hlk (hb hby d6_171) (by decide) (by decide) ?_
      rw [e26]
      unfold Q_rm6_1a
      have hst : ¬ st = 0 := fun z => hc6 (own_lcz.mpr z)
      rw [own_X, if_neg hst, if_neg hB]
      exact ⟨rfl, N26, K27, ((E0.wr W21).wr W26), ((P_nanosPerStep.other W21 (Or.inl (Ne.symm ne_ta_o0))).other W26 (Or.inr (slot_ne (Or.inr (hw _ (List.mem_of_getElem? (i := 12) rfl))) (Or.inl (hw _ (List.mem_of_getElem? (i := 28) rfl))) (by decide) (t := (.array .double)) (t' := .long) (by decide) (by decide)))), ((P_rounds.other W21 (Or.inl (Ne.symm ne_ta_o0))).other W26 (Or.inr (slot_ne (Or.inl (hw _ (List.mem_of_getElem? (i := 19) rfl))) (Or.inl (hw _ (List.mem_of_getElem? (i := 28) rfl))) (by decide) (t := .long) (t' := .long) (by decide) (by decide)))), ((P_otherWay.other W21 (Or.inl (Ne.symm ne_ta_o0))).other W26 (Or.inr (slot_ne (Or.inl (hw _ (List.mem_of_getElem? (i := 21) rfl))) (Or.inl (hw _ (List.mem_of_getElem? (i := 28) rfl))) (by decide) (t := .boolean) (t' := .long) (by decide) (by decide)))), Fw26, ((P_shared.other W21 (Or.inl (Ne.symm ne_ta_o0))).other W26 (Or.inr (slot_ne (Or.inl (hw _ (List.mem_of_getElem? (i := 30) rfl))) (Or.inl (hw _ (List.mem_of_getElem? (i := 28) rfl))) (by decide) (t := .boolean) (t' := .long) (by decide) (by decide)))), ((P_steps.other W21 (Or.inl (Ne.symm ne_ta_o0))).other W26 (Or.inr (slot_ne (Or.inl (hw _ (List.mem_of_getElem? (i := 32) rfl))) (Or.inl (hw _ (List.mem_of_getElem? (i := 28) rfl))) (by decide) (t := .long) (t' := .long) (by decide) (by decide)))), ((P_sharedOverUnshared.other W21 (Or.inl (Ne.symm ne_ta_o0))).other W26 (Or.inr (slot_ne (Or.inl (hw _ (List.mem_of_getElem? (i := 47) rfl))) (Or.inl (hw _ (List.mem_of_getElem? (i := 28) rfl))) (by decide) (t := .double) (t' := .long) (by decide) (by decide)))), (V21.other W26 ne_ta_o0)⟩
theorem own_l0z : FP.l2d 0 = (0 : UInt64) := by decide +kernel
theorem own_ct0 : own_ct 0 := ⟨by decide, by decide⟩
theorem own_asub (t d : Int64) : t + d - t = d := by rw [Int64.add_comm]; exact Int64.add_sub_cancel ..
theorem own_ctm (x : Int64) : own_ct (x &&& 2147483647) := by
  have e1 : (x &&& 2147483647).toInt = x.toInt % 2 ^ 31 := Jvm.Kit.i64_mask x 2147483647 (k := 31) (by decide) (by decide)
  constructor <;> omega
theorem own_ctD {t d : Int64} (h : own_ct d) : own_ct (own_D t d) := by unfold own_D; split; exact own_ct0; exact h
theorem own_Q0 (st : Int64) (v : UInt64) : own_Q st 0 v = 0 := by unfold own_Q; split; rfl; rw [if_pos rfl]
theorem own_Dz1 {t d : Int64} (h : t = 0) : own_D t d = 0 := if_pos h
theorem own_Dz2 {t d : Int64} (h : d = 0) : own_D t d = 0 := by unfold own_D; split; rfl; exact h
theorem own_Dn {t d : Int64} (h : ¬ t = 0) : own_D t d = d := if_neg h
theorem own_Qv {st d A : Int64} {v : UInt64} (h : ¬ own_D st d = 0) (hA : ¬ A = 0) : own_Q st A v = v := by
  unfold own_Q; rw [if_neg (fun z => h (own_Dz1 z)), if_neg hA]
theorem own_mc {s u : Int64} (hs : own_ct s) (hu : own_ct u) : (0 : Int32) < lcmpW (10 * s) (9 * u) ↔ ¬ 10 * s.toInt ≤ 9 * u.toInt := by
  obtain ⟨s1, s2⟩ := hs
  obtain ⟨u1, u2⟩ := hu
  have e1 : (10 * s).toInt = 10 * s.toInt := by rw [Int64.toInt_mul, show (10 : Int64).toInt = 10 from by decide]; exact Int.bmod_eq_of_le (by omega) (by omega)
  have e2 : (9 * u).toInt = 9 * u.toInt := by rw [Int64.toInt_mul, show (9 : Int64).toInt = 9 from by decide]; exact Int.bmod_eq_of_le (by omega) (by omega)
  rw [lcW, lc_gt, Int64.lt_iff_toInt_lt, e1, e2]; omega
theorem own_s2_0 {D : Int64} (c : own_ct D) (q : UInt64) : (if (cmpValue (FP.dcmp (FP.l2d D) FP.dconst0) .l) = (0 : Int32) then (0 : Int32) else if (cmpValue (FP.dcmp (FP.l2d (0 : Int64)) FP.dconst0) .l) = (0 : Int32) then (1 : Int32) else if (0 : Int32) < (cmpValue (FP.dcmp q (4606281698874543309 : UInt64)) .g) then (0 : Int32) else (1 : Int32)) = (if D = 0 then (0 : Int32) else (1 : Int32)) := by
  by_cases h : D = 0
  · rw [if_pos ((own_cA c).mpr h), if_pos h]
  · rw [if_neg (fun z => h ((own_cA c).mp z)), if_pos own_c00, if_neg h]
theorem own_s2_1 (x q : UInt64) : (if (cmpValue (FP.dcmp (FP.l2d (0 : Int64)) FP.dconst0) .l) = (0 : Int32) then (0 : Int32) else if (cmpValue (FP.dcmp x FP.dconst0) .l) = (0 : Int32) then (1 : Int32) else if (0 : Int32) < (cmpValue (FP.dcmp q (4606281698874543309 : UInt64)) .g) then (0 : Int32) else (1 : Int32)) = 0 := if_pos own_c00
theorem own_s3_m {A0 A1 : Int64} (c0 : own_ct A0) (c1 : own_ct A1) {q : UInt64} (hq : ¬ A0 = 0 → ¬ A1 = 0 → q = FP.ddiv (FP.l2d A1) (FP.l2d A0)) : (if (cmpValue (FP.dcmp (FP.l2d A0) FP.dconst0) .l) = (0 : Int32) then (0 : Int32) else if (cmpValue (FP.dcmp (FP.l2d A1) FP.dconst0) .l) = (0 : Int32) then (1 : Int32) else if (0 : Int32) < (cmpValue (FP.dcmp q (4606281698874543309 : UInt64)) .g) then (0 : Int32) else (1 : Int32)) = (if A0 = 0 then (0 : Int32) else if A1 = 0 then (1 : Int32) else if 10 * A1.toInt ≤ 9 * A0.toInt then (1 : Int32) else (0 : Int32)) := by
  by_cases h0 : A0 = 0
  · rw [if_pos ((own_cA c0).mpr h0), if_pos h0]
  · by_cases h1 : A1 = 0
    · rw [if_neg (fun z => h0 ((own_cA c0).mp z)), if_pos ((own_cA c1).mpr h1), if_neg h0, if_pos h1]
    · rw [if_neg (fun z => h0 ((own_cA c0).mp z)), if_neg (fun z => h1 ((own_cA c1).mp z)), if_neg h0, if_neg h1, hq h0 h1]
      by_cases hm : 10 * A1.toInt ≤ 9 * A0.toInt
      · rw [if_neg (fun z => (own_cmp9 c1 c0 h0).mp z hm), if_pos hm]
      · rw [if_pos ((own_cmp9 c1 c0 h0).mpr hm), if_neg hm]
theorem own_s3_00 {st B d : Int64} (cB : own_ct B) (cd : own_ct d) (q : UInt64) : (if (cmpValue (FP.dcmp (own_X st B (FP.l2d d) (FP.dadd (FP.l2d B) (FP.dmul (4593671619917905920 : UInt64) (FP.dsub (FP.l2d d) (FP.l2d B))))) FP.dconst0) .l) = (0 : Int32) then (0 : Int32) else if (cmpValue (FP.dcmp (FP.l2d (0 : Int64)) FP.dconst0) .l) = (0 : Int32) then (1 : Int32) else if (0 : Int32) < (cmpValue (FP.dcmp q (4606281698874543309 : UInt64)) .g) then (0 : Int32) else (1 : Int32)) = (if B = 0 ∧ own_D st d = 0 then (0 : Int32) else (1 : Int32)) := by
  unfold own_X
  by_cases hs : st = 0
  · rw [if_pos hs, own_s2_0 cB, own_Dz1 hs]; simp
  · rw [if_neg hs, own_Dn hs]
    by_cases hB : B = 0
    · rw [if_pos hB, own_s2_0 cd]; simp [hB]
    · rw [if_neg hB, if_neg (own_av cB cd hB).2.2.2, if_pos own_c00, if_neg (fun z => hB z.1)]
theorem ef_0_7 (m : MethodId) (q0 : Int64) (q1 : Int64) (p2 : Int32) (p3 : Int32) (p4 : Int32) : entryFrame m #[(.long q0), (.long q1), (.int p2), (.int p3), (.int p4)] maxLocals = mkF m 0 #[.val (.long q0), .second, .val (.long q1), .second, .val (.int p2), .val (.int p3), .val (.int p4), .unset, .unset, .unset, .unset, .unset, .unset, .unset, .unset, .unset, .unset, .unset, .unset, .unset, .unset, .unset, .unset, .unset, .unset] [] := by first | (simp [entryFrame, mkF, argsToLocals, Value.category, maxLocals]; done) | rfl
theorem pn_com_example_dialtone_dialtone_workload_SharingSharesPinLaw : plainName "com/example/dialtone/dialtone/workload/SharingSharesPinLaw" = true := by first | (simp [plainName, overriddenIn]; done) | decide +kernel
def Q_rm0 (Z : State) (q0 : Int64) (q1 : Int64) (p2 : Int32) (p3 : Int32) (p4 : Int32)  (h0 : Heap) (n0 : Nat) (v : Option Value) (h : Heap) (L : List Loc) : Prop := v = some (.int 1) ∧ Fr n0 L
theorem pd_1 : parseMethodDescriptor "()V" = some ⟨[], none⟩ := by decide +kernel
theorem pd_2 : parseMethodDescriptor "()Z" = some ⟨[], some .boolean⟩ := by decide +kernel
theorem pd_3 : parseMethodDescriptor "(JZ)V" = some ⟨[.long, .boolean], none⟩ := by decide +kernel
theorem pd_4 : parseMethodDescriptor "(J)V" = some ⟨[.long], none⟩ := by decide +kernel
set_option maxRecDepth 65536 in
set_option maxHeartbeats 40000000 in
theorem rm0 (l : Launch) (Z : State) (a0 : Array Value) (hw : ∀ d ∈ tables_1, d.before a0 Z = true) (ws : List Jvm.Cond) (q0 : Int64) (q1 : Int64) (p2 : Int32) (p3 : Int32) (p4 : Int32)  (h0 : Heap) (n0 : Nat) (Z0 : n0 ≤ h0.size) :
    MetFree l x (head1 (Jvm.Cond.code x code maxLocals ret :: ws) room_1) (fun a U => a = #[(.long q0), (.long q1), (.int p2), (.int p3), (.int p4)] ∧ Z.Warmed39 U.vm ∧ U.heap = h0) (fun _ _ _ _ _ => True) (fun _ U o U' => ∃ v L, o = .returned v ∧ Q_rm0 Z q0 q1 p2 p3 p4 h0 n0 v U'.heap L ∧ FrameEnd U o U' L room_1.cells room_1.slots) := by
  refine MetFree.of_bodySF (plainFor_of_name pn_com_example_dialtone_dialtone_workload_SharingSharesPinLaw) hisR ?_
  intro p e s m args below meth c s₁ Bd hml0 hP hK
  obtain ⟨rfl, hZ, hh⟩ := hP
  have hx := Bd.exec
  have hby := Bd.bytes
  have hlk := BodyLoose.notSynchronized Bd
  have hrt := Bd.returns
  have hml : c.maxLocals = 25 := hml0
  have hown : s.vm.findClass "com/example/dialtone/dialtone/workload/SharingSharesPinLaw" = some m.cls := findClass_of_methodNamed Bd.named
  have hnm := (name_of_methodNamed Bd.named Bd.method).1
  have X0 : Stand p l e room_1 s m #[(.long q0), (.long q1), (.int p2), (.int p3), (.int p4)] below meth c s₁ [] 0 0 := Stand.of_body Bd
  have e0 : s₁.heap = h0 := by rw [← hh, Bd.state]; rfl
  have N0 := Fr.nil n0
  have K0 : Keep h0 h0 [] := Keep.refl h0 _
  show Runs p e below (QE s (Q_rm0 Z q0 q1 p2 p3 p4 h0 n0) room_1.cells room_1.slots) (s₁.setTop (entryFrame m #[(.long q0), (.long q1), (.int p2), (.int p3), (.int p4)] maxLocals))
  rw [ef_0_7 m q0 q1 p2 p3 p4]
  refine Runs.by (fun _ hr => XS.iload X0.here hx rfl (hb hby at_0) rfl  hr) ?_
  refine Runs.by (fun _ hr => XS.i2l X0.here hx rfl (hb hby at_2) rfl hr) ?_
  show Runs p e below _ (s₁.setTop (mkF m 3 #[.val (.long q0), .second, .val (.long q1), .second, .val (.int p2), .val (.int p3), .val (.int p4), .unset, .unset, .unset, .unset, .unset, .unset, .unset, .unset, .unset, .unset, .unset, .unset, .unset, .unset, .unset, .unset, .unset, .unset] [(.long (p2.toInt64))]))
  refine Runs.by (fun _ hr => X0.ldc2J hx hown (mvT hZ (hw _ (List.mem_of_getElem? (i := 0) rfl))) (g := (mkF m 3 #[.val (.long q0), .second, .val (.long q1), .second, .val (.int p2), .val (.int p3), .val (.int p4), .unset, .unset, .unset, .unset, .unset, .unset, .unset, .unset, .unset, .unset, .unset, .unset, .unset, .unset, .unset, .unset, .unset, .unset] [(.long (p2.toInt64))])) rfl (hb hby at_3) hr) ?_
  show Runs p e below _ (s₁.setTop (mkF m 6 #[.val (.long q0), .second, .val (.long q1), .second, .val (.int p2), .val (.int p3), .val (.int p4), .unset, .unset, .unset, .unset, .unset, .unset, .unset, .unset, .unset, .unset, .unset, .unset, .unset, .unset, .unset, .unset, .unset, .unset] [(.long (2147483647 : Int64)), (.long (p2.toInt64))]))
  refine Runs.by (fun _ hr => XS.land X0.here hx rfl (hb hby at_6) rfl hr) ?_
  obtain ⟨da, hda, cda⟩ : ∃ z, z = ((p2.toInt64) &&& (2147483647 : Int64)) ∧ own_ct z := ⟨_, rfl, own_ctm _⟩
  show Runs p e below _ (s₁.setTop (mkF m 7 #[.val (.long q0), .second, .val (.long q1), .second, .val (.int p2), .val (.int p3), .val (.int p4), .unset, .unset, .unset, .unset, .unset, .unset, .unset, .unset, .unset, .unset, .unset, .unset, .unset, .unset, .unset, .unset, .unset, .unset] [(.long ((p2.toInt64) &&& (2147483647 : Int64)))]))
  rw [← hda]
  refine Runs.by (fun _ hr => XS.lstore X0.here hx rfl (hb hby at_7) rfl (l' := #[.val (.long q0), .second, .val (.long q1), .second, .val (.int p2), .val (.int p3), .val (.int p4), .val (.long da), .second, .unset, .unset, .unset, .unset, .unset, .unset, .unset, .unset, .unset, .unset, .unset, .unset, .unset, .unset, .unset, .unset]) rfl hr) ?_
  refine Runs.by (fun _ hr => XS.iload X0.here hx rfl (hb hby at_9) rfl  hr) ?_
  show Runs p e below _ (s₁.setTop (mkF m 11 #[.val (.long q0), .second, .val (.long q1), .second, .val (.int p2), .val (.int p3), .val (.int p4), .val (.long da), .second, .unset, .unset, .unset, .unset, .unset, .unset, .unset, .unset, .unset, .unset, .unset, .unset, .unset, .unset, .unset, .unset] [(.int p3)]))
  refine Runs.by (fun _ hr => XS.i2l X0.here hx rfl (hb hby at_11) rfl hr) ?_
  show Runs p e below _ (s₁.setTop (mkF m 12 #[.val (.long q0), .second, .val (.long q1), .second, .val (.int p2), .val (.int p3), .val (.int p4), .val (.long da), .second, .unset, .unset, .unset, .unset, .unset, .unset, .unset, .unset, .unset, .unset, .unset, .unset, .unset, .unset, .unset, .unset] [(.long (p3.toInt64))]))
  refine Runs.by (fun _ hr => X0.ldc2J hx hown (mvT hZ (hw _ (List.mem_of_getElem? (i := 0) rfl))) (g := (mkF m 12 #[.val (.long q0), .second, .val (.long q1), .second, .val (.int p2), .val (.int p3), .val (.int p4), .val (.long da), .second, .unset, .unset, .unset, .unset, .unset, .unset, .unset, .unset, .unset, .unset, .unset, .unset, .unset, .unset, .unset, .unset] [(.long (p3.toInt64))])) rfl (hb hby at_12) hr) ?_
  show Runs p e below _ (s₁.setTop (mkF m 15 #[.val (.long q0), .second, .val (.long q1), .second, .val (.int p2), .val (.int p3), .val (.int p4), .val (.long da), .second, .unset, .unset, .unset, .unset, .unset, .unset, .unset, .unset, .unset, .unset, .unset, .unset, .unset, .unset, .unset, .unset] [(.long (2147483647 : Int64)), (.long (p3.toInt64))]))
  refine Runs.by (fun _ hr => XS.land X0.here hx rfl (hb hby at_15) rfl hr) ?_
  obtain ⟨db, hdb, cdb⟩ : ∃ z, z = ((p3.toInt64) &&& (2147483647 : Int64)) ∧ own_ct z := ⟨_, rfl, own_ctm _⟩
  show Runs p e below _ (s₁.setTop (mkF m 16 #[.val (.long q0), .second, .val (.long q1), .second, .val (.int p2), .val (.int p3), .val (.int p4), .val (.long da), .second, .unset, .unset, .unset, .unset, .unset, .unset, .unset, .unset, .unset, .unset, .unset, .unset, .unset, .unset, .unset, .unset] [(.long ((p3.toInt64) &&& (2147483647 : Int64)))]))
  rw [← hdb]
  refine Runs.by (fun _ hr => XS.lstore X0.here hx rfl (hb hby at_16) rfl (l' := #[.val (.long q0), .second, .val (.long q1), .second, .val (.int p2), .val (.int p3), .val (.int p4), .val (.long da), .second, .val (.long db), .second, .unset, .unset, .unset, .unset, .unset, .unset, .unset, .unset, .unset, .unset, .unset, .unset, .unset, .unset]) rfl hr) ?_
  refine Runs.by (fun _ hr => XS.iload X0.here hx rfl (hb hby at_18) rfl  hr) ?_
  show Runs p e below _ (s₁.setTop (mkF m 20 #[.val (.long q0), .second, .val (.long q1), .second, .val (.int p2), .val (.int p3), .val (.int p4), .val (.long da), .second, .val (.long db), .second, .unset, .unset, .unset, .unset, .unset, .unset, .unset, .unset, .unset, .unset, .unset, .unset, .unset, .unset] [(.int p4)]))
  refine Runs.by (fun _ hr => XS.iconst X0.here hx rfl (hb hby at_20) hr) ?_
  show Runs p e below _ (s₁.setTop (mkF m 21 #[.val (.long q0), .second, .val (.long q1), .second, .val (.int p2), .val (.int p3), .val (.int p4), .val (.long da), .second, .val (.long db), .second, .unset, .unset, .unset, .unset, .unset, .unset, .unset, .unset, .unset, .unset, .unset, .unset, .unset, .unset] [(.int (1 : Int32)), (.int p4)]))
  refine Runs.by (fun _ hr => XS.iand X0.here hx rfl (hb hby at_21) rfl hr) ?_
  by_cases hc22 : (p4 &&& (1 : Int32)) = (0 : Int32)
  · -- pc 22: (p4 &&& (1 : Int32)) = (0 : Int32)
    refine Runs.by (fun _ hr => XS.ifYes X0.here hx rfl (pc0 := 22) (pc' := 29) rfl (hb hby at_22) rfl ((if0 _ _).trans (teq hc22).1) (by decide) (by decide) hr) ?_
    refine Runs.by (fun _ hr => XS.iconst X0.here hx rfl (hb hby at_29) hr) ?_
    show Runs p e below _ (s₁.setTop (mkF m 30 #[.val (.long q0), .second, .val (.long q1), .second, .val (.int p2), .val (.int p3), .val (.int p4), .val (.long da), .second, .val (.long db), .second, .unset, .unset, .unset, .unset, .unset, .unset, .unset, .unset, .unset, .unset, .unset, .unset, .unset, .unset] [(.int (0 : Int32))]))
    refine Runs.by (fun _ hr => XS.istore X0.here hx rfl (hb hby at_30) rfl (l' := #[.val (.long q0), .second, .val (.long q1), .second, .val (.int p2), .val (.int p3), .val (.int p4), .val (.long da), .second, .val (.long db), .second, .val (.int (0 : Int32)), .unset, .unset, .unset, .unset, .unset, .unset, .unset, .unset, .unset, .unset, .unset, .unset, .unset]) rfl hr) ?_
    refine Runs.by (fun _ hr => XS.iload X0.here hx rfl (hb hby at_32) rfl  hr) ?_
    refine Runs.by (fun _ hr => XS.iconst X0.here hx rfl (hb hby at_34) hr) ?_
    show Runs p e below _ (s₁.setTop (mkF m 35 #[.val (.long q0), .second, .val (.long q1), .second, .val (.int p2), .val (.int p3), .val (.int p4), .val (.long da), .second, .val (.long db), .second, .val (.int (0 : Int32)), .unset, .unset, .unset, .unset, .unset, .unset, .unset, .unset, .unset, .unset, .unset, .unset, .unset] [(.int (2 : Int32)), (.int p4)]))
    refine Runs.by (fun _ hr => XS.iand X0.here hx rfl (hb hby at_35) rfl hr) ?_
    by_cases hc36 : (p4 &&& (2 : Int32)) = (0 : Int32)
    · -- pc 36: (p4 &&& (2 : Int32)) = (0 : Int32)
      refine Runs.by (fun _ hr => XS.ifYes X0.here hx rfl (pc0 := 36) (pc' := 43) rfl (hb hby at_36) rfl ((if0 _ _).trans (teq hc36).1) (by decide) (by decide) hr) ?_
      refine Runs.by (fun _ hr => XS.iconst X0.here hx rfl (hb hby at_43) hr) ?_
      show Runs p e below _ (s₁.setTop (mkF m 44 #[.val (.long q0), .second, .val (.long q1), .second, .val (.int p2), .val (.int p3), .val (.int p4), .val (.long da), .second, .val (.long db), .second, .val (.int (0 : Int32)), .unset, .unset, .unset, .unset, .unset, .unset, .unset, .unset, .unset, .unset, .unset, .unset, .unset] [(.int (0 : Int32))]))
      refine Runs.by (fun _ hr => XS.istore X0.here hx rfl (hb hby at_44) rfl (l' := #[.val (.long q0), .second, .val (.long q1), .second, .val (.int p2), .val (.int p3), .val (.int p4), .val (.long da), .second, .val (.long db), .second, .val (.int (0 : Int32)), .val (.int (0 : Int32)), .unset, .unset, .unset, .unset, .unset, .unset, .unset, .unset, .unset, .unset, .unset, .unset]) rfl hr) ?_
      have cD1 : own_ct (own_D q0 da) := own_ctD cda
      have cD2 : own_ct (own_D q1 db) := own_ctD cdb
      show Runs p e below _ (s₁.setTop (mkF m 46 #[.val (.long q0), .second, .val (.long q1), .second, .val (.int p2), .val (.int p3), .val (.int p4), .val (.long da), .second, .val (.long db), .second, .val (.int (0 : Int32)), .val (.int (0 : Int32)), .unset, .unset, .unset, .unset, .unset, .unset, .unset, .unset, .unset, .unset, .unset, .unset] []))
      obtain ⟨T1, h1, X1, e1, E1, A1, D1, -, st1⟩ := newO X0 hx hZ hown (hw _ (List.mem_of_getElem? (i := 1) rfl)) (hw _ (List.mem_of_getElem? (i := 2) rfl)) (hw _ (List.mem_of_getElem? (i := 3) rfl)) e0 (g := (mkF m 46 #[.val (.long q0), .second, .val (.long q1), .second, .val (.int p2), .val (.int p3), .val (.int p4), .val (.long da), .second, .val (.long db), .second, .val (.int (0 : Int32)), .val (.int (0 : Int32)), .unset, .unset, .unset, .unset, .unset, .unset, .unset, .unset, .unset, .unset, .unset, .unset] [])) rfl (hb hby at_46) (by decide) (by decide)
      obtain ⟨b1, gz1⟩ : ∃ z, z = h0.size := ⟨_, rfl⟩
      rw [← gz1] at A1 D1 st1
      have g_b1 : n0 ≤ b1 := Nat.le_trans (Nat.le_trans Z0 K0.1) (Nat.le_of_eq gz1.symm)
      have sz_b1 : h0.size ≤ b1 := Nat.le_trans K0.1 (Nat.le_of_eq gz1.symm)
      have K2 : Keep h0 h1 [] := K0.ext E1
      have F_nanosPerStep_b1 : Fld Z h1 b1 "com/example/dialtone/dialtone/workload/Workers$Sharing" "nanosPerStep" "[D" .null := D1 (Or.inr (hw _ (List.mem_of_getElem? (i := 12) rfl))) (ty := (.array .double)) (by decide)
      have F_rounds_b1 : Fld Z h1 b1 "com/example/dialtone/dialtone/workload/Workers$Sharing" "rounds" "J" (.long (0 : Int64)) := D1 (Or.inl (hw _ (List.mem_of_getElem? (i := 19) rfl))) (ty := .long) (by decide)
      have F_otherWay_b1 : Fld Z h1 b1 "com/example/dialtone/dialtone/workload/Workers$Sharing" "otherWay" "Z" (.int (0 : Int32)) := D1 (Or.inl (hw _ (List.mem_of_getElem? (i := 21) rfl))) (ty := .boolean) (by decide)
      have F_started_b1 : Fld Z h1 b1 "com/example/dialtone/dialtone/workload/Workers$Sharing" "started" "J" (.long (0 : Int64)) := D1 (Or.inl (hw _ (List.mem_of_getElem? (i := 28) rfl))) (ty := .long) (by decide)
      have F_shared_b1 : Fld Z h1 b1 "com/example/dialtone/dialtone/workload/Workers$Sharing" "shared" "Z" (.int (0 : Int32)) := D1 (Or.inl (hw _ (List.mem_of_getElem? (i := 30) rfl))) (ty := .boolean) (by decide)
      have F_steps_b1 : Fld Z h1 b1 "com/example/dialtone/dialtone/workload/Workers$Sharing" "steps" "J" (.long (0 : Int64)) := D1 (Or.inl (hw _ (List.mem_of_getElem? (i := 32) rfl))) (ty := .long) (by decide)
      have F_sharedOverUnshared_b1 : Fld Z h1 b1 "com/example/dialtone/dialtone/workload/Workers$Sharing" "sharedOverUnshared" "D" (.double (0 : UInt64)) := D1 (Or.inl (hw _ (List.mem_of_getElem? (i := 47) rfl))) (ty := .double) (by decide)
      refine Runs.by st1 ?_
      refine Runs.by (fun _ hr => XS.dup X1.here hx rfl (hb hby at_49) rfl rfl hr) ?_
      show Runs p e below _ (T1.setTop (mkF m 50 #[.val (.long q0), .second, .val (.long q1), .second, .val (.int p2), .val (.int p3), .val (.int p4), .val (.long da), .second, .val (.long db), .second, .val (.int (0 : Int32)), .val (.int (0 : Int32)), .unset, .unset, .unset, .unset, .unset, .unset, .unset, .unset, .unset, .unset, .unset, .unset] [(.ref b1), (.ref b1)]))
      obtain ⟨_, _, ⟨T3, L3, k3, n3⟩, -, X3, ⟨Lc3, hQ3, l3, y3, z3⟩, st3⟩ := X1.specialBack hx (y := (⟨"com/example/dialtone/dialtone/workload/Workers$Sharing", "<init>", "()V"⟩ : MethodName)) rfl hown (mvT hZ (hw _ (List.mem_of_getElem? (i := 4) rfl))) (mvT hZ (hw _ (List.mem_of_getElem? (i := 5) rfl))) (mvT hZ (hw _ (List.mem_of_getElem? (i := 6) rfl))) (by decide) (backOf (W := 1) (rm1 l Z a0 hw [] b1  h1 n0 (Nat.le_trans Z0 K2.1) A1 g_b1 F_nanosPerStep_b1 F_rounds_b1 F_otherWay_b1 F_started_b1 F_shared_b1 F_steps_b1 F_sharedOverUnshared_b1) hZ (hw _ (List.mem_of_getElem? (i := 6) rfl)) (hw _ (List.mem_of_getElem? (i := 3) rfl)) (by decide) (by decide)) (g := (mkF m 50 #[.val (.long q0), .second, .val (.long q1), .second, .val (.int p2), .val (.int p3), .val (.int p4), .val (.long da), .second, .val (.long db), .second, .val (.int (0 : Int32)), .val (.int (0 : Int32)), .unset, .unset, .unset, .unset, .unset, .unset, .unset, .unset, .unset, .unset, .unset, .unset] [(.ref b1), (.ref b1)])) rfl (by rw [hml]; rfl) (Steps.refl _) (a := b1) (argsL := []) (rest := [(.ref b1)]) (lenOf pd_1 rfl) rfl (by show 2 * 0 + _ ≤ _; exact Nat.le_of_eq rfl) (hb hby at_50) (fun _ _ => ⟨rfl, e1, (by decide : 1 + 1 ≤ _), (by decide : 7 + 2 ≤ _)⟩)
      dsimp only [Pt.U, Pt.locs, Pt.cells, Pt.slots] at X3 l3 y3 z3 st3 hQ3
      subst l3 y3 z3
      obtain ⟨rfl, Nq3, Kq3, f3_0, t3, kt3, g_t3, szq_t3, neq_t3, f3_1, f3_2, f3_3, f3_4, f3_5, f3_6, f3_7, f3_8⟩ := hQ3
      have N3 := Fr.app N0 Nq3
      have ne_b1_t3 : b1 ≠ t3 := Nat.ne_of_lt (Nat.lt_of_lt_of_le A1.lt szq_t3)
      have sz_t3 : h0.size ≤ t3 := Nat.le_trans K2.1 szq_t3
      have K4 : Keep h0 T3.heap [] := Keep.trans (ws := []) K2 Kq3 (allS (Or.inr sz_b1) all0)
      refine Runs.by (fun _ hr => st3.trans hr) ?_
      refine Runs.by (fun _ hr => XS.astore X3.here hx rfl (hb hby at_53) rfl rfl (l' := #[.val (.long q0), .second, .val (.long q1), .second, .val (.int p2), .val (.int p3), .val (.int p4), .val (.long da), .second, .val (.long db), .second, .val (.int (0 : Int32)), .val (.int (0 : Int32)), .val (.ref b1), .unset, .unset, .unset, .unset, .unset, .unset, .unset, .unset, .unset, .unset, .unset]) rfl hr) ?_
      have VL0 : Arv Z T3.heap t3 kt3 .double (2 : Int32) [(.double (FP.l2d (0 : Int64))), (.double (FP.l2d (0 : Int64)))] (.double (0 : UInt64)) := by rw [own_l0z]; exact f3_8
      refine Runs.by (fun _ hr => XS.aload X3.here hx rfl (hb hby at_55) rfl rfl hr) ?_
      show Runs p e below _ (T3.setTop (mkF m 57 #[.val (.long q0), .second, .val (.long q1), .second, .val (.int p2), .val (.int p3), .val (.int p4), .val (.long da), .second, .val (.long db), .second, .val (.int (0 : Int32)), .val (.int (0 : Int32)), .val (.ref b1), .unset, .unset, .unset, .unset, .unset, .unset, .unset, .unset, .unset, .unset, .unset] [(.ref b1)]))
      obtain ⟨cq5, kq5, q5a, q5b, q5c⟩ := isOf hZ rfl f3_0
      obtain ⟨_, _, ⟨T5, L5, k5, n5⟩, -, X5, ⟨Lc5, hQ5, l5, y5, z5⟩, st5⟩ := X3.virtualBack hx (y := (⟨"com/example/dialtone/dialtone/workload/Workers$Sharing", "shares", "()Z"⟩ : MethodName)) (z := (⟨"com/example/dialtone/dialtone/workload/Workers$Sharing", "shares", "()Z"⟩ : MethodName)) hown (mvT hZ (hw _ (List.mem_of_getElem? (i := 13) rfl))) (mvT hZ (hw _ (List.mem_of_getElem? (i := 14) rfl))) (notFace_of_selects (args := #[]) (mvT hZ (hw _ (List.mem_of_getElem? (i := 16) rfl)))) (mvT hZ (hw _ (List.mem_of_getElem? (i := 16) rfl))) (mvT hZ (hw _ (List.mem_of_getElem? (i := 15) rfl))) (by decide) (backOf (W := 0) (rm3_0 l Z a0 hw [] b1 t3 kt3 (FP.l2d (0 : Int64)) (FP.l2d (0 : Int64)) (0 : UInt64) (0 : Int64) (0 : Int64) (0 : Int32) T3.heap n0 (Nat.le_trans Z0 K4.1) f3_0 g_b1 g_t3 (Ne.symm ne_b1_t3) f3_1 f3_2 f3_3 f3_4 f3_5 f3_6 f3_7 VL0 ) hZ (hw _ (List.mem_of_getElem? (i := 17) rfl)) (hw _ (List.mem_of_getElem? (i := 3) rfl)) (by decide) (by decide)) q5a q5c (g := (mkF m 57 #[.val (.long q0), .second, .val (.long q1), .second, .val (.int p2), .val (.int p3), .val (.int p4), .val (.long da), .second, .val (.long db), .second, .val (.int (0 : Int32)), .val (.int (0 : Int32)), .val (.ref b1), .unset, .unset, .unset, .unset, .unset, .unset, .unset, .unset, .unset, .unset, .unset] [(.ref b1)])) rfl (by rw [hml]; rfl) (Steps.refl _) (argsL := []) (rest := []) (lenOf pd_2 rfl) rfl (by show 2 * 0 + _ ≤ _; exact Nat.le_of_eq rfl) (hb hby at_57) (fun _ _ => ⟨rfl, rfl, (by decide : 2 + 0 ≤ _), (by decide : 9 + 0 ≤ _)⟩)
      dsimp only [Pt.U, Pt.locs, Pt.cells, Pt.slots] at X5 l5 y5 z5 st5 hQ5
      subst l5 y5 z5
      obtain ⟨rfl, Nq5, Kq5, f5_0, f5_1, f5_2, f5_3, f5_4, f5_5, f5_6, f5_7, f5_8⟩ := hQ5
      have N5 := Fr.app N3 Nq5
      have K6 : Keep h0 T5.heap [] := Keep.trans (ws := []) K4 Kq5 (allS (Or.inr sz_b1) all0)
      refine Runs.by (fun _ hr => st5.trans hr) ?_
      show Runs p e below _ (T5.setTop (mkF m 60 #[.val (.long q0), .second, .val (.long q1), .second, .val (.int p2), .val (.int p3), .val (.int p4), .val (.long da), .second, .val (.long db), .second, .val (.int (0 : Int32)), .val (.int (0 : Int32)), .val (.ref b1), .unset, .unset, .unset, .unset, .unset, .unset, .unset, .unset, .unset, .unset, .unset] [(.int (if (cmpValue (FP.dcmp (FP.l2d (0 : Int64)) FP.dconst0) .l) = (0 : Int32) then (0 : Int32) else if (cmpValue (FP.dcmp (FP.l2d (0 : Int64)) FP.dconst0) .l) = (0 : Int32) then (1 : Int32) else if (0 : Int32) < (cmpValue (FP.dcmp (0 : UInt64) (4606281698874543309 : UInt64)) .g) then (0 : Int32) else (1 : Int32)))]))
      rw [if_pos own_c00]
      refine Runs.by (fun _ hr => XS.istore X5.here hx rfl (hb hby at_60) rfl (l' := #[.val (.long q0), .second, .val (.long q1), .second, .val (.int p2), .val (.int p3), .val (.int p4), .val (.long da), .second, .val (.long db), .second, .val (.int (0 : Int32)), .val (.int (0 : Int32)), .val (.ref b1), .val (.int (0 : Int32)), .unset, .unset, .unset, .unset, .unset, .unset, .unset, .unset, .unset, .unset]) rfl hr) ?_
      refine Runs.by (fun _ hr => XS.aload X5.here hx rfl (hb hby at_62) rfl rfl hr) ?_
      show Runs p e below _ (T5.setTop (mkF m 64 #[.val (.long q0), .second, .val (.long q1), .second, .val (.int p2), .val (.int p3), .val (.int p4), .val (.long da), .second, .val (.long db), .second, .val (.int (0 : Int32)), .val (.int (0 : Int32)), .val (.ref b1), .val (.int (0 : Int32)), .unset, .unset, .unset, .unset, .unset, .unset, .unset, .unset, .unset, .unset] [(.ref b1)]))
      refine Runs.by (fun _ hr => XS.lloadN X5.here hx rfl (hb hby at_64) rfl  hr) ?_
      refine Runs.by (fun _ hr => XS.iload X5.here hx rfl (hb hby at_65) rfl  hr) ?_
      show Runs p e below _ (T5.setTop (mkF m 67 #[.val (.long q0), .second, .val (.long q1), .second, .val (.int p2), .val (.int p3), .val (.int p4), .val (.long da), .second, .val (.long db), .second, .val (.int (0 : Int32)), .val (.int (0 : Int32)), .val (.ref b1), .val (.int (0 : Int32)), .unset, .unset, .unset, .unset, .unset, .unset, .unset, .unset, .unset, .unset] [(.int (0 : Int32)), (.long q0), (.ref b1)]))
      obtain ⟨cq7, kq7, q7a, q7b, q7c⟩ := isOf hZ rfl f5_0
      obtain ⟨_, _, ⟨T7, L7, k7, n7⟩, -, X7, ⟨Lc7, hQ7, l7, y7, z7⟩, st7⟩ := X5.virtualBack hx (y := (⟨"com/example/dialtone/dialtone/workload/Workers$Sharing", "started", "(JZ)V"⟩ : MethodName)) (z := (⟨"com/example/dialtone/dialtone/workload/Workers$Sharing", "started", "(JZ)V"⟩ : MethodName)) hown (mvT hZ (hw _ (List.mem_of_getElem? (i := 22) rfl))) (mvT hZ (hw _ (List.mem_of_getElem? (i := 23) rfl))) (notFace_of_selects (args := #[]) (mvT hZ (hw _ (List.mem_of_getElem? (i := 25) rfl)))) (mvT hZ (hw _ (List.mem_of_getElem? (i := 25) rfl))) (mvT hZ (hw _ (List.mem_of_getElem? (i := 24) rfl))) (by decide) (backOf (W := 0) (rm4_0 l Z a0 hw [] b1 q0 t3 kt3 (FP.l2d (0 : Int64)) (FP.l2d (0 : Int64)) (0 : UInt64) (1 : Int64) (0 : Int64) (0 : Int64) (0 : Int32) T5.heap n0 (Nat.le_trans Z0 K6.1) f5_0 g_b1 g_t3 (Ne.symm ne_b1_t3) f5_1 f5_2 f5_3 f5_4 f5_5 f5_6 f5_7 f5_8 ) hZ (hw _ (List.mem_of_getElem? (i := 26) rfl)) (hw _ (List.mem_of_getElem? (i := 3) rfl)) (by decide) (by decide)) q7a q7c (g := (mkF m 67 #[.val (.long q0), .second, .val (.long q1), .second, .val (.int p2), .val (.int p3), .val (.int p4), .val (.long da), .second, .val (.long db), .second, .val (.int (0 : Int32)), .val (.int (0 : Int32)), .val (.ref b1), .val (.int (0 : Int32)), .unset, .unset, .unset, .unset, .unset, .unset, .unset, .unset, .unset, .unset] [(.int (0 : Int32)), (.long q0), (.ref b1)])) rfl (by rw [hml]; rfl) (Steps.refl _) (argsL := [(.long q0), (.int (0 : Int32))]) (rest := []) (lenOf pd_3 rfl) rfl (by show 2 * 0 + _ ≤ _; exact Nat.le_of_eq rfl) (hb hby at_67) (fun _ _ => ⟨rfl, rfl, (by decide : 2 + 0 ≤ _), (by decide : 9 + 0 ≤ _)⟩)
      dsimp only [Pt.U, Pt.locs, Pt.cells, Pt.slots] at X7 l7 y7 z7 st7 hQ7
      subst l7 y7 z7
      obtain ⟨rfl, Nq7, Kq7, f7_0, f7_1, f7_2, f7_3, f7_4, f7_5, f7_6, f7_7, f7_8⟩ := hQ7
      have N7 := Fr.app N5 Nq7
      have K8 : Keep h0 T7.heap [] := Keep.trans (ws := []) K6 Kq7 (allS (Or.inr sz_b1) all0)
      refine Runs.by (fun _ hr => st7.trans hr) ?_
      refine Runs.by (fun _ hr => XS.aload X7.here hx rfl (hb hby at_70) rfl rfl hr) ?_
      show Runs p e below _ (T7.setTop (mkF m 72 #[.val (.long q0), .second, .val (.long q1), .second, .val (.int p2), .val (.int p3), .val (.int p4), .val (.long da), .second, .val (.long db), .second, .val (.int (0 : Int32)), .val (.int (0 : Int32)), .val (.ref b1), .val (.int (0 : Int32)), .unset, .unset, .unset, .unset, .unset, .unset, .unset, .unset, .unset, .unset] [(.ref b1)]))
      obtain ⟨cq9, kq9, q9a, q9b, q9c⟩ := isOf hZ rfl f7_0
      obtain ⟨_, _, ⟨T9, L9, k9, n9⟩, -, X9, ⟨Lc9, hQ9, l9, y9, z9⟩, st9⟩ := X7.virtualBack hx (y := (⟨"com/example/dialtone/dialtone/workload/Workers$Sharing", "stepped", "()V"⟩ : MethodName)) (z := (⟨"com/example/dialtone/dialtone/workload/Workers$Sharing", "stepped", "()V"⟩ : MethodName)) hown (mvT hZ (hw _ (List.mem_of_getElem? (i := 33) rfl))) (mvT hZ (hw _ (List.mem_of_getElem? (i := 34) rfl))) (notFace_of_selects (args := #[]) (mvT hZ (hw _ (List.mem_of_getElem? (i := 36) rfl)))) (mvT hZ (hw _ (List.mem_of_getElem? (i := 36) rfl))) (mvT hZ (hw _ (List.mem_of_getElem? (i := 35) rfl))) (by decide) (backOf (W := 0) (rm5 l Z a0 hw [] b1 t3 kt3 (FP.l2d (0 : Int64)) (FP.l2d (0 : Int64)) (0 : UInt64) (1 : Int64) q0 (0 : Int32) T7.heap n0 (Nat.le_trans Z0 K8.1) f7_0 g_b1 g_t3 (Ne.symm ne_b1_t3) f7_1 f7_2 f7_3 f7_4 f7_5 f7_6 f7_7 f7_8 ) hZ (hw _ (List.mem_of_getElem? (i := 37) rfl)) (hw _ (List.mem_of_getElem? (i := 3) rfl)) (by decide) (by decide)) q9a q9c (g := (mkF m 72 #[.val (.long q0), .second, .val (.long q1), .second, .val (.int p2), .val (.int p3), .val (.int p4), .val (.long da), .second, .val (.long db), .second, .val (.int (0 : Int32)), .val (.int (0 : Int32)), .val (.ref b1), .val (.int (0 : Int32)), .unset, .unset, .unset, .unset, .unset, .unset, .unset, .unset, .unset, .unset] [(.ref b1)])) rfl (by rw [hml]; rfl) (Steps.refl _) (argsL := []) (rest := []) (lenOf pd_1 rfl) rfl (by show 2 * 0 + _ ≤ _; exact Nat.le_of_eq rfl) (hb hby at_72) (fun _ _ => ⟨rfl, rfl, (by decide : 2 + 0 ≤ _), (by decide : 9 + 0 ≤ _)⟩)
      dsimp only [Pt.U, Pt.locs, Pt.cells, Pt.slots] at X9 l9 y9 z9 st9 hQ9
      subst l9 y9 z9
      obtain ⟨rfl, Nq9, Kq9, f9_0, f9_1, f9_2, f9_3, f9_4, f9_5, f9_6, f9_7, f9_8⟩ := hQ9
      have N9 := Fr.app N7 Nq9
      have K10 : Keep h0 T9.heap [] := Keep.trans (ws := []) K8 Kq9 (allS (Or.inr sz_b1) all0)
      refine Runs.by (fun _ hr => st9.trans hr) ?_
      refine Runs.by (fun _ hr => XS.aload X9.here hx rfl (hb hby at_75) rfl rfl hr) ?_
      refine Runs.by (fun _ hr => XS.lloadN X9.here hx rfl (hb hby at_77) rfl  hr) ?_
      show Runs p e below _ (T9.setTop (mkF m 78 #[.val (.long q0), .second, .val (.long q1), .second, .val (.int p2), .val (.int p3), .val (.int p4), .val (.long da), .second, .val (.long db), .second, .val (.int (0 : Int32)), .val (.int (0 : Int32)), .val (.ref b1), .val (.int (0 : Int32)), .unset, .unset, .unset, .unset, .unset, .unset, .unset, .unset, .unset, .unset] [(.long q0), (.ref b1)]))
      refine Runs.by (fun _ hr => XS.lload X9.here hx rfl (hb hby at_78) rfl  hr) ?_
      refine Runs.by (fun _ hr => XS.ladd X9.here hx rfl (hb hby at_80) rfl hr) ?_
      show Runs p e below _ (T9.setTop (mkF m 81 #[.val (.long q0), .second, .val (.long q1), .second, .val (.int p2), .val (.int p3), .val (.int p4), .val (.long da), .second, .val (.long db), .second, .val (.int (0 : Int32)), .val (.int (0 : Int32)), .val (.ref b1), .val (.int (0 : Int32)), .unset, .unset, .unset, .unset, .unset, .unset, .unset, .unset, .unset, .unset] [(.long (q0 + da)), (.ref b1)]))
      obtain ⟨cq11, kq11, q11a, q11b, q11c⟩ := isOf hZ rfl f9_0
      obtain ⟨_, _, ⟨T11, L11, k11, n11⟩, -, X11, ⟨Lc11, hQ11, l11, y11, z11⟩, st11⟩ := X9.virtualBack hx (y := (⟨"com/example/dialtone/dialtone/workload/Workers$Sharing", "ended", "(J)V"⟩ : MethodName)) (z := (⟨"com/example/dialtone/dialtone/workload/Workers$Sharing", "ended", "(J)V"⟩ : MethodName)) hown (mvT hZ (hw _ (List.mem_of_getElem? (i := 38) rfl))) (mvT hZ (hw _ (List.mem_of_getElem? (i := 39) rfl))) (notFace_of_selects (args := #[]) (mvT hZ (hw _ (List.mem_of_getElem? (i := 41) rfl)))) (mvT hZ (hw _ (List.mem_of_getElem? (i := 41) rfl))) (mvT hZ (hw _ (List.mem_of_getElem? (i := 40) rfl))) (by decide) (backOf (W := 0) (rm6_0z l Z a0 hw [] b1 (q0 + da) t3 kt3 (1 : Int64) q0 da (0 : Int64) T9.heap n0 (Nat.le_trans Z0 K10.1) f9_0 g_b1 g_t3 (Ne.symm ne_b1_t3) f9_1 f9_2 f9_3 f9_4 f9_5 f9_6 f9_7 f9_8 (own_asub q0 da) cda own_ct0) hZ (hw _ (List.mem_of_getElem? (i := 42) rfl)) (hw _ (List.mem_of_getElem? (i := 3) rfl)) (by decide) (by decide)) q11a q11c (g := (mkF m 81 #[.val (.long q0), .second, .val (.long q1), .second, .val (.int p2), .val (.int p3), .val (.int p4), .val (.long da), .second, .val (.long db), .second, .val (.int (0 : Int32)), .val (.int (0 : Int32)), .val (.ref b1), .val (.int (0 : Int32)), .unset, .unset, .unset, .unset, .unset, .unset, .unset, .unset, .unset, .unset] [(.long (q0 + da)), (.ref b1)])) rfl (by rw [hml]; rfl) (Steps.refl _) (argsL := [(.long (q0 + da))]) (rest := []) (lenOf pd_4 rfl) rfl (by show 2 * 0 + _ ≤ _; exact Nat.le_of_eq rfl) (hb hby at_81) (fun _ _ => ⟨rfl, rfl, (by decide : 2 + 0 ≤ _), (by decide : 9 + 0 ≤ _)⟩)
      dsimp only [Pt.U, Pt.locs, Pt.cells, Pt.slots] at X11 l11 y11 z11 st11 hQ11
      subst l11 y11 z11
      obtain ⟨rfl, Nq11, Kq11, f11_0, f11_1, f11_2, f11_3, f11_4, f11_5, f11_6, f11_7, f11_8⟩ := hQ11
      have N11 := Fr.app N9 Nq11
      have K12 : Keep h0 T11.heap [] := Keep.trans (ws := []) K10 Kq11 (allS (Or.inr sz_b1) (allS (Or.inr sz_t3) all0))
      refine Runs.by (fun _ hr => st11.trans hr) ?_
      have FQ := f11_7
      rw [own_Q0] at FQ
      refine Runs.by (fun _ hr => XS.aload X11.here hx rfl (hb hby at_84) rfl rfl hr) ?_
      show Runs p e below _ (T11.setTop (mkF m 86 #[.val (.long q0), .second, .val (.long q1), .second, .val (.int p2), .val (.int p3), .val (.int p4), .val (.long da), .second, .val (.long db), .second, .val (.int (0 : Int32)), .val (.int (0 : Int32)), .val (.ref b1), .val (.int (0 : Int32)), .unset, .unset, .unset, .unset, .unset, .unset, .unset, .unset, .unset, .unset] [(.ref b1)]))
      obtain ⟨cq13, kq13, q13a, q13b, q13c⟩ := isOf hZ rfl f11_0
      obtain ⟨_, _, ⟨T13, L13, k13, n13⟩, -, X13, ⟨Lc13, hQ13, l13, y13, z13⟩, st13⟩ := X11.virtualBack hx (y := (⟨"com/example/dialtone/dialtone/workload/Workers$Sharing", "shares", "()Z"⟩ : MethodName)) (z := (⟨"com/example/dialtone/dialtone/workload/Workers$Sharing", "shares", "()Z"⟩ : MethodName)) hown (mvT hZ (hw _ (List.mem_of_getElem? (i := 13) rfl))) (mvT hZ (hw _ (List.mem_of_getElem? (i := 14) rfl))) (notFace_of_selects (args := #[]) (mvT hZ (hw _ (List.mem_of_getElem? (i := 16) rfl)))) (mvT hZ (hw _ (List.mem_of_getElem? (i := 16) rfl))) (mvT hZ (hw _ (List.mem_of_getElem? (i := 15) rfl))) (by decide) (backOf (W := 0) (rm3_1 l Z a0 hw [] b1 t3 kt3 (FP.l2d (own_D q0 da)) (FP.l2d (0 : Int64)) (0 : UInt64) (0 : Int64) (1 : Int64) (0 : Int32) T11.heap n0 (Nat.le_trans Z0 K12.1) f11_0 g_b1 g_t3 (Ne.symm ne_b1_t3) f11_1 f11_2 f11_3 f11_4 f11_5 f11_6 FQ f11_8 ) hZ (hw _ (List.mem_of_getElem? (i := 17) rfl)) (hw _ (List.mem_of_getElem? (i := 3) rfl)) (by decide) (by decide)) q13a q13c (g := (mkF m 86 #[.val (.long q0), .second, .val (.long q1), .second, .val (.int p2), .val (.int p3), .val (.int p4), .val (.long da), .second, .val (.long db), .second, .val (.int (0 : Int32)), .val (.int (0 : Int32)), .val (.ref b1), .val (.int (0 : Int32)), .unset, .unset, .unset, .unset, .unset, .unset, .unset, .unset, .unset, .unset] [(.ref b1)])) rfl (by rw [hml]; rfl) (Steps.refl _) (argsL := []) (rest := []) (lenOf pd_2 rfl) rfl (by show 2 * 0 + _ ≤ _; exact Nat.le_of_eq rfl) (hb hby at_86) (fun _ _ => ⟨rfl, rfl, (by decide : 2 + 0 ≤ _), (by decide : 9 + 0 ≤ _)⟩)
      dsimp only [Pt.U, Pt.locs, Pt.cells, Pt.slots] at X13 l13 y13 z13 st13 hQ13
      subst l13 y13 z13
      obtain ⟨rfl, Nq13, Kq13, f13_0, f13_1, f13_2, f13_3, f13_4, f13_5, f13_6, f13_7, f13_8⟩ := hQ13
      have N13 := Fr.app N11 Nq13
      have K14 : Keep h0 T13.heap [] := Keep.trans (ws := []) K12 Kq13 (allS (Or.inr sz_b1) all0)
      refine Runs.by (fun _ hr => st13.trans hr) ?_
      obtain ⟨s2, es2⟩ : ∃ z : Int32, z = (if (cmpValue (FP.dcmp (FP.l2d (own_D q0 da)) FP.dconst0) .l) = (0 : Int32) then (0 : Int32) else if (cmpValue (FP.dcmp (FP.l2d (0 : Int64)) FP.dconst0) .l) = (0 : Int32) then (1 : Int32) else if (0 : Int32) < (cmpValue (FP.dcmp (0 : UInt64) (4606281698874543309 : UInt64)) .g) then (0 : Int32) else (1 : Int32)) := ⟨_, rfl⟩
      show Runs p e below _ (T13.setTop (mkF m 89 #[.val (.long q0), .second, .val (.long q1), .second, .val (.int p2), .val (.int p3), .val (.int p4), .val (.long da), .second, .val (.long db), .second, .val (.int (0 : Int32)), .val (.int (0 : Int32)), .val (.ref b1), .val (.int (0 : Int32)), .unset, .unset, .unset, .unset, .unset, .unset, .unset, .unset, .unset, .unset] [(.int (if (cmpValue (FP.dcmp (FP.l2d (own_D q0 da)) FP.dconst0) .l) = (0 : Int32) then (0 : Int32) else if (cmpValue (FP.dcmp (FP.l2d (0 : Int64)) FP.dconst0) .l) = (0 : Int32) then (1 : Int32) else if (0 : Int32) < (cmpValue (FP.dcmp (0 : UInt64) (4606281698874543309 : UInt64)) .g) then (0 : Int32) else (1 : Int32)))]))
      rw [← es2]
      have hs2 : s2 = (if (own_D q0 da) = 0 then (0 : Int32) else (1 : Int32)) := es2.trans (own_s2_0 cD1 _)
      refine Runs.by (fun _ hr => XS.istore X13.here hx rfl (hb hby at_89) rfl (l' := #[.val (.long q0), .second, .val (.long q1), .second, .val (.int p2), .val (.int p3), .val (.int p4), .val (.long da), .second, .val (.long db), .second, .val (.int (0 : Int32)), .val (.int (0 : Int32)), .val (.ref b1), .val (.int (0 : Int32)), .val (.int s2), .unset, .unset, .unset, .unset, .unset, .unset, .unset, .unset, .unset]) rfl hr) ?_
      refine Runs.by (fun _ hr => XS.aload X13.here hx rfl (hb hby at_91) rfl rfl hr) ?_
      show Runs p e below _ (T13.setTop (mkF m 93 #[.val (.long q0), .second, .val (.long q1), .second, .val (.int p2), .val (.int p3), .val (.int p4), .val (.long da), .second, .val (.long db), .second, .val (.int (0 : Int32)), .val (.int (0 : Int32)), .val (.ref b1), .val (.int (0 : Int32)), .val (.int s2), .unset, .unset, .unset, .unset, .unset, .unset, .unset, .unset, .unset] [(.ref b1)]))
      refine Runs.by (fun _ hr => XS.lloadN X13.here hx rfl (hb hby at_93) rfl  hr) ?_
      refine Runs.by (fun _ hr => XS.iload X13.here hx rfl (hb hby at_94) rfl  hr) ?_
      show Runs p e below _ (T13.setTop (mkF m 96 #[.val (.long q0), .second, .val (.long q1), .second, .val (.int p2), .val (.int p3), .val (.int p4), .val (.long da), .second, .val (.long db), .second, .val (.int (0 : Int32)), .val (.int (0 : Int32)), .val (.ref b1), .val (.int (0 : Int32)), .val (.int s2), .unset, .unset, .unset, .unset, .unset, .unset, .unset, .unset, .unset] [(.int (0 : Int32)), (.long q1), (.ref b1)]))
      obtain ⟨cq15, kq15, q15a, q15b, q15c⟩ := isOf hZ rfl f13_0
      obtain ⟨_, _, ⟨T15, L15, k15, n15⟩, -, X15, ⟨Lc15, hQ15, l15, y15, z15⟩, st15⟩ := X13.virtualBack hx (y := (⟨"com/example/dialtone/dialtone/workload/Workers$Sharing", "started", "(JZ)V"⟩ : MethodName)) (z := (⟨"com/example/dialtone/dialtone/workload/Workers$Sharing", "started", "(JZ)V"⟩ : MethodName)) hown (mvT hZ (hw _ (List.mem_of_getElem? (i := 22) rfl))) (mvT hZ (hw _ (List.mem_of_getElem? (i := 23) rfl))) (notFace_of_selects (args := #[]) (mvT hZ (hw _ (List.mem_of_getElem? (i := 25) rfl)))) (mvT hZ (hw _ (List.mem_of_getElem? (i := 25) rfl))) (mvT hZ (hw _ (List.mem_of_getElem? (i := 24) rfl))) (by decide) (backOf (W := 0) (rm4_0 l Z a0 hw [] b1 q1 t3 kt3 (FP.l2d (own_D q0 da)) (FP.l2d (0 : Int64)) (0 : UInt64) (2 : Int64) (0 : Int64) (1 : Int64) (0 : Int32) T13.heap n0 (Nat.le_trans Z0 K14.1) f13_0 g_b1 g_t3 (Ne.symm ne_b1_t3) f13_1 f13_2 f13_3 f13_4 f13_5 f13_6 f13_7 f13_8 ) hZ (hw _ (List.mem_of_getElem? (i := 26) rfl)) (hw _ (List.mem_of_getElem? (i := 3) rfl)) (by decide) (by decide)) q15a q15c (g := (mkF m 96 #[.val (.long q0), .second, .val (.long q1), .second, .val (.int p2), .val (.int p3), .val (.int p4), .val (.long da), .second, .val (.long db), .second, .val (.int (0 : Int32)), .val (.int (0 : Int32)), .val (.ref b1), .val (.int (0 : Int32)), .val (.int s2), .unset, .unset, .unset, .unset, .unset, .unset, .unset, .unset, .unset] [(.int (0 : Int32)), (.long q1), (.ref b1)])) rfl (by rw [hml]; rfl) (Steps.refl _) (argsL := [(.long q1), (.int (0 : Int32))]) (rest := []) (lenOf pd_3 rfl) rfl (by show 2 * 0 + _ ≤ _; exact Nat.le_of_eq rfl) (hb hby at_96) (fun _ _ => ⟨rfl, rfl, (by decide : 2 + 0 ≤ _), (by decide : 9 + 0 ≤ _)⟩)
      dsimp only [Pt.U, Pt.locs, Pt.cells, Pt.slots] at X15 l15 y15 z15 st15 hQ15
      subst l15 y15 z15
      obtain ⟨rfl, Nq15, Kq15, f15_0, f15_1, f15_2, f15_3, f15_4, f15_5, f15_6, f15_7, f15_8⟩ := hQ15
      have N15 := Fr.app N13 Nq15
      have K16 : Keep h0 T15.heap [] := Keep.trans (ws := []) K14 Kq15 (allS (Or.inr sz_b1) all0)
      refine Runs.by (fun _ hr => st15.trans hr) ?_
      refine Runs.by (fun _ hr => XS.aload X15.here hx rfl (hb hby at_99) rfl rfl hr) ?_
      show Runs p e below _ (T15.setTop (mkF m 101 #[.val (.long q0), .second, .val (.long q1), .second, .val (.int p2), .val (.int p3), .val (.int p4), .val (.long da), .second, .val (.long db), .second, .val (.int (0 : Int32)), .val (.int (0 : Int32)), .val (.ref b1), .val (.int (0 : Int32)), .val (.int s2), .unset, .unset, .unset, .unset, .unset, .unset, .unset, .unset, .unset] [(.ref b1)]))
      obtain ⟨cq17, kq17, q17a, q17b, q17c⟩ := isOf hZ rfl f15_0
      obtain ⟨_, _, ⟨T17, L17, k17, n17⟩, -, X17, ⟨Lc17, hQ17, l17, y17, z17⟩, st17⟩ := X15.virtualBack hx (y := (⟨"com/example/dialtone/dialtone/workload/Workers$Sharing", "stepped", "()V"⟩ : MethodName)) (z := (⟨"com/example/dialtone/dialtone/workload/Workers$Sharing", "stepped", "()V"⟩ : MethodName)) hown (mvT hZ (hw _ (List.mem_of_getElem? (i := 33) rfl))) (mvT hZ (hw _ (List.mem_of_getElem? (i := 34) rfl))) (notFace_of_selects (args := #[]) (mvT hZ (hw _ (List.mem_of_getElem? (i := 36) rfl)))) (mvT hZ (hw _ (List.mem_of_getElem? (i := 36) rfl))) (mvT hZ (hw _ (List.mem_of_getElem? (i := 35) rfl))) (by decide) (backOf (W := 0) (rm5 l Z a0 hw [] b1 t3 kt3 (FP.l2d (own_D q0 da)) (FP.l2d (0 : Int64)) (0 : UInt64) (2 : Int64) q1 (0 : Int32) T15.heap n0 (Nat.le_trans Z0 K16.1) f15_0 g_b1 g_t3 (Ne.symm ne_b1_t3) f15_1 f15_2 f15_3 f15_4 f15_5 f15_6 f15_7 f15_8 ) hZ (hw _ (List.mem_of_getElem? (i := 37) rfl)) (hw _ (List.mem_of_getElem? (i := 3) rfl)) (by decide) (by decide)) q17a q17c (g := (mkF m 101 #[.val (.long q0), .second, .val (.long q1), .second, .val (.int p2), .val (.int p3), .val (.int p4), .val (.long da), .second, .val (.long db), .second, .val (.int (0 : Int32)), .val (.int (0 : Int32)), .val (.ref b1), .val (.int (0 : Int32)), .val (.int s2), .unset, .unset, .unset, .unset, .unset, .unset, .unset, .unset, .unset] [(.ref b1)])) rfl (by rw [hml]; rfl) (Steps.refl _) (argsL := []) (rest := []) (lenOf pd_1 rfl) rfl (by show 2 * 0 + _ ≤ _; exact Nat.le_of_eq rfl) (hb hby at_101) (fun _ _ => ⟨rfl, rfl, (by decide : 2 + 0 ≤ _), (by decide : 9 + 0 ≤ _)⟩)
      dsimp only [Pt.U, Pt.locs, Pt.cells, Pt.slots] at X17 l17 y17 z17 st17 hQ17
      subst l17 y17 z17
      obtain ⟨rfl, Nq17, Kq17, f17_0, f17_1, f17_2, f17_3, f17_4, f17_5, f17_6, f17_7, f17_8⟩ := hQ17
      have N17 := Fr.app N15 Nq17
      have K18 : Keep h0 T17.heap [] := Keep.trans (ws := []) K16 Kq17 (allS (Or.inr sz_b1) all0)
      refine Runs.by (fun _ hr => st17.trans hr) ?_
      refine Runs.by (fun _ hr => XS.aload X17.here hx rfl (hb hby at_104) rfl rfl hr) ?_
      refine Runs.by (fun _ hr => XS.lloadN X17.here hx rfl (hb hby at_106) rfl  hr) ?_
      show Runs p e below _ (T17.setTop (mkF m 107 #[.val (.long q0), .second, .val (.long q1), .second, .val (.int p2), .val (.int p3), .val (.int p4), .val (.long da), .second, .val (.long db), .second, .val (.int (0 : Int32)), .val (.int (0 : Int32)), .val (.ref b1), .val (.int (0 : Int32)), .val (.int s2), .unset, .unset, .unset, .unset, .unset, .unset, .unset, .unset, .unset] [(.long q1), (.ref b1)]))
      refine Runs.by (fun _ hr => XS.lload X17.here hx rfl (hb hby at_107) rfl  hr) ?_
      refine Runs.by (fun _ hr => XS.ladd X17.here hx rfl (hb hby at_109) rfl hr) ?_
      show Runs p e below _ (T17.setTop (mkF m 110 #[.val (.long q0), .second, .val (.long q1), .second, .val (.int p2), .val (.int p3), .val (.int p4), .val (.long da), .second, .val (.long db), .second, .val (.int (0 : Int32)), .val (.int (0 : Int32)), .val (.ref b1), .val (.int (0 : Int32)), .val (.int s2), .unset, .unset, .unset, .unset, .unset, .unset, .unset, .unset, .unset] [(.long (q1 + db)), (.ref b1)]))
      obtain ⟨cq19, kq19, q19a, q19b, q19c⟩ := isOf hZ rfl f17_0
      obtain ⟨_, _, ⟨T19, L19, k19, n19⟩, -, X19, ⟨Lc19, hQ19, l19, y19, z19⟩, st19⟩ := X17.virtualBack hx (y := (⟨"com/example/dialtone/dialtone/workload/Workers$Sharing", "ended", "(J)V"⟩ : MethodName)) (z := (⟨"com/example/dialtone/dialtone/workload/Workers$Sharing", "ended", "(J)V"⟩ : MethodName)) hown (mvT hZ (hw _ (List.mem_of_getElem? (i := 38) rfl))) (mvT hZ (hw _ (List.mem_of_getElem? (i := 39) rfl))) (notFace_of_selects (args := #[]) (mvT hZ (hw _ (List.mem_of_getElem? (i := 41) rfl)))) (mvT hZ (hw _ (List.mem_of_getElem? (i := 41) rfl))) (mvT hZ (hw _ (List.mem_of_getElem? (i := 40) rfl))) (by decide) (backOf (W := 0) (rm6_0a l Z a0 hw [] b1 (q1 + db) t3 kt3 (2 : Int64) q1 db (own_D q0 da) T17.heap n0 (Nat.le_trans Z0 K18.1) f17_0 g_b1 g_t3 (Ne.symm ne_b1_t3) f17_1 f17_2 f17_3 f17_4 f17_5 f17_6 f17_7 f17_8 (own_asub q1 db) cdb cD1) hZ (hw _ (List.mem_of_getElem? (i := 42) rfl)) (hw _ (List.mem_of_getElem? (i := 3) rfl)) (by decide) (by decide)) q19a q19c (g := (mkF m 110 #[.val (.long q0), .second, .val (.long q1), .second, .val (.int p2), .val (.int p3), .val (.int p4), .val (.long da), .second, .val (.long db), .second, .val (.int (0 : Int32)), .val (.int (0 : Int32)), .val (.ref b1), .val (.int (0 : Int32)), .val (.int s2), .unset, .unset, .unset, .unset, .unset, .unset, .unset, .unset, .unset] [(.long (q1 + db)), (.ref b1)])) rfl (by rw [hml]; rfl) (Steps.refl _) (argsL := [(.long (q1 + db))]) (rest := []) (lenOf pd_4 rfl) rfl (by show 2 * 0 + _ ≤ _; exact Nat.le_of_eq rfl) (hb hby at_110) (fun _ _ => ⟨rfl, rfl, (by decide : 2 + 0 ≤ _), (by decide : 9 + 0 ≤ _)⟩)
      dsimp only [Pt.U, Pt.locs, Pt.cells, Pt.slots] at X19 l19 y19 z19 st19 hQ19
      subst l19 y19 z19
      obtain ⟨rfl, Nq19, Kq19, f19_0, f19_1, f19_2, f19_3, f19_4, f19_5, f19_6, f19_7, f19_8⟩ := hQ19
      have N19 := Fr.app N17 Nq19
      have K20 : Keep h0 T19.heap [] := Keep.trans (ws := []) K18 Kq19 (allS (Or.inr sz_b1) (allS (Or.inr sz_t3) all0))
      refine Runs.by (fun _ hr => st19.trans hr) ?_
      refine Runs.by (fun _ hr => XS.aload X19.here hx rfl (hb hby at_113) rfl rfl hr) ?_
      show Runs p e below _ (T19.setTop (mkF m 115 #[.val (.long q0), .second, .val (.long q1), .second, .val (.int p2), .val (.int p3), .val (.int p4), .val (.long da), .second, .val (.long db), .second, .val (.int (0 : Int32)), .val (.int (0 : Int32)), .val (.ref b1), .val (.int (0 : Int32)), .val (.int s2), .unset, .unset, .unset, .unset, .unset, .unset, .unset, .unset, .unset] [(.ref b1)]))
      obtain ⟨cq21, kq21, q21a, q21b, q21c⟩ := isOf hZ rfl f19_0
      obtain ⟨_, _, ⟨T21, L21, k21, n21⟩, -, X21, ⟨Lc21, hQ21, l21, y21, z21⟩, st21⟩ := X19.virtualBack hx (y := (⟨"com/example/dialtone/dialtone/workload/Workers$Sharing", "shares", "()Z"⟩ : MethodName)) (z := (⟨"com/example/dialtone/dialtone/workload/Workers$Sharing", "shares", "()Z"⟩ : MethodName)) hown (mvT hZ (hw _ (List.mem_of_getElem? (i := 13) rfl))) (mvT hZ (hw _ (List.mem_of_getElem? (i := 14) rfl))) (notFace_of_selects (args := #[]) (mvT hZ (hw _ (List.mem_of_getElem? (i := 16) rfl)))) (mvT hZ (hw _ (List.mem_of_getElem? (i := 16) rfl))) (mvT hZ (hw _ (List.mem_of_getElem? (i := 15) rfl))) (by decide) (backOf (W := 0) (rm3_2 l Z a0 hw [] b1 t3 kt3 (own_X q1 (own_D q0 da) (FP.l2d db) (FP.dadd (FP.l2d (own_D q0 da)) (FP.dmul (4593671619917905920 : UInt64) (FP.dsub (FP.l2d db) (FP.l2d (own_D q0 da)))))) (FP.l2d (0 : Int64)) (0 : UInt64) (0 : Int64) (1 : Int64) (0 : Int32) T19.heap n0 (Nat.le_trans Z0 K20.1) f19_0 g_b1 g_t3 (Ne.symm ne_b1_t3) f19_1 f19_2 f19_3 f19_4 f19_5 f19_6 f19_7 f19_8 ) hZ (hw _ (List.mem_of_getElem? (i := 17) rfl)) (hw _ (List.mem_of_getElem? (i := 3) rfl)) (by decide) (by decide)) q21a q21c (g := (mkF m 115 #[.val (.long q0), .second, .val (.long q1), .second, .val (.int p2), .val (.int p3), .val (.int p4), .val (.long da), .second, .val (.long db), .second, .val (.int (0 : Int32)), .val (.int (0 : Int32)), .val (.ref b1), .val (.int (0 : Int32)), .val (.int s2), .unset, .unset, .unset, .unset, .unset, .unset, .unset, .unset, .unset] [(.ref b1)])) rfl (by rw [hml]; rfl) (Steps.refl _) (argsL := []) (rest := []) (lenOf pd_2 rfl) rfl (by show 2 * 0 + _ ≤ _; exact Nat.le_of_eq rfl) (hb hby at_115) (fun _ _ => ⟨rfl, rfl, (by decide : 2 + 0 ≤ _), (by decide : 9 + 0 ≤ _)⟩)
      dsimp only [Pt.U, Pt.locs, Pt.cells, Pt.slots] at X21 l21 y21 z21 st21 hQ21
      subst l21 y21 z21
      obtain ⟨rfl, Nq21, Kq21, f21_0, f21_1, f21_2, f21_3, f21_4, f21_5, f21_6, f21_7, f21_8⟩ := hQ21
      have N21 := Fr.app N19 Nq21
      have K22 : Keep h0 T21.heap [] := Keep.trans (ws := []) K20 Kq21 (allS (Or.inr sz_b1) all0)
      refine Runs.by (fun _ hr => st21.trans hr) ?_
      obtain ⟨s3, es3⟩ : ∃ z : Int32, z = (if (cmpValue (FP.dcmp (own_X q1 (own_D q0 da) (FP.l2d db) (FP.dadd (FP.l2d (own_D q0 da)) (FP.dmul (4593671619917905920 : UInt64) (FP.dsub (FP.l2d db) (FP.l2d (own_D q0 da)))))) FP.dconst0) .l) = (0 : Int32) then (0 : Int32) else if (cmpValue (FP.dcmp (FP.l2d (0 : Int64)) FP.dconst0) .l) = (0 : Int32) then (1 : Int32) else if (0 : Int32) < (cmpValue (FP.dcmp (0 : UInt64) (4606281698874543309 : UInt64)) .g) then (0 : Int32) else (1 : Int32)) := ⟨_, rfl⟩
      show Runs p e below _ (T21.setTop (mkF m 118 #[.val (.long q0), .second, .val (.long q1), .second, .val (.int p2), .val (.int p3), .val (.int p4), .val (.long da), .second, .val (.long db), .second, .val (.int (0 : Int32)), .val (.int (0 : Int32)), .val (.ref b1), .val (.int (0 : Int32)), .val (.int s2), .unset, .unset, .unset, .unset, .unset, .unset, .unset, .unset, .unset] [(.int (if (cmpValue (FP.dcmp (own_X q1 (own_D q0 da) (FP.l2d db) (FP.dadd (FP.l2d (own_D q0 da)) (FP.dmul (4593671619917905920 : UInt64) (FP.dsub (FP.l2d db) (FP.l2d (own_D q0 da)))))) FP.dconst0) .l) = (0 : Int32) then (0 : Int32) else if (cmpValue (FP.dcmp (FP.l2d (0 : Int64)) FP.dconst0) .l) = (0 : Int32) then (1 : Int32) else if (0 : Int32) < (cmpValue (FP.dcmp (0 : UInt64) (4606281698874543309 : UInt64)) .g) then (0 : Int32) else (1 : Int32)))]))
      rw [← es3]
      have hs3 : s3 = (if (own_D q0 da) = 0 ∧ (own_D q1 db) = 0 then (0 : Int32) else (1 : Int32)) := es3.trans (own_s3_00 cD1 cdb _)
      refine Runs.by (fun _ hr => XS.istore X21.here hx rfl (hb hby at_118) rfl (l' := #[.val (.long q0), .second, .val (.long q1), .second, .val (.int p2), .val (.int p3), .val (.int p4), .val (.long da), .second, .val (.long db), .second, .val (.int (0 : Int32)), .val (.int (0 : Int32)), .val (.ref b1), .val (.int (0 : Int32)), .val (.int s2), .val (.int s3), .unset, .unset, .unset, .unset, .unset, .unset, .unset, .unset]) rfl hr) ?_
      refine Runs.by (fun _ hr => XS.lloadN X21.here hx rfl (hb hby at_120) rfl  hr) ?_
      show Runs p e below _ (T21.setTop (mkF m 121 #[.val (.long q0), .second, .val (.long q1), .second, .val (.int p2), .val (.int p3), .val (.int p4), .val (.long da), .second, .val (.long db), .second, .val (.int (0 : Int32)), .val (.int (0 : Int32)), .val (.ref b1), .val (.int (0 : Int32)), .val (.int s2), .val (.int s3), .unset, .unset, .unset, .unset, .unset, .unset, .unset, .unset] [(.long q0)]))
      refine Runs.by (fun _ hr => XS.lconst X21.here hx rfl (hb hby at_121) hr) ?_
      refine Runs.by (fun _ hr => XS.lcmp X21.here hx rfl (hb hby at_122) rfl hr) ?_
      by_cases hc123 : (lcmpW q0 (0 : Int64)) = (0 : Int32)
      · -- pc 123: (lcmpW q0 (0 : Int64)) = (0 : Int32)
        refine Runs.by (fun _ hr => XS.ifYes X21.here hx rfl (pc0 := 123) (pc' := 137) rfl (hb hby at_123) rfl ((if0 _ _).trans (teq hc123).1) (by decide) (by decide) hr) ?_
        show Runs p e below _ (T21.setTop (mkF m 137 #[.val (.long q0), .second, .val (.long q1), .second, .val (.int p2), .val (.int p3), .val (.int p4), .val (.long da), .second, .val (.long db), .second, .val (.int (0 : Int32)), .val (.int (0 : Int32)), .val (.ref b1), .val (.int (0 : Int32)), .val (.int s2), .val (.int s3), .unset, .unset, .unset, .unset, .unset, .unset, .unset, .unset] []))
        refine Runs.by (fun _ hr => XS.iconst X21.here hx rfl (hb hby at_137) hr) ?_
        refine Runs.by (fun _ hr => XS.istore X21.here hx rfl (hb hby at_138) rfl (l' := #[.val (.long q0), .second, .val (.long q1), .second, .val (.int p2), .val (.int p3), .val (.int p4), .val (.long da), .second, .val (.long db), .second, .val (.int (0 : Int32)), .val (.int (0 : Int32)), .val (.ref b1), .val (.int (0 : Int32)), .val (.int s2), .val (.int s3), .val (.int (0 : Int32)), .unset, .unset, .unset, .unset, .unset, .unset, .unset]) rfl hr) ?_
        have zD1 : own_D q0 da = 0 := own_Dz1 (own_lcz.mp hc123)
        refine Runs.by (fun _ hr => XS.lloadN X21.here hx rfl (hb hby at_140) rfl  hr) ?_
        show Runs p e below _ (T21.setTop (mkF m 141 #[.val (.long q0), .second, .val (.long q1), .second, .val (.int p2), .val (.int p3), .val (.int p4), .val (.long da), .second, .val (.long db), .second, .val (.int (0 : Int32)), .val (.int (0 : Int32)), .val (.ref b1), .val (.int (0 : Int32)), .val (.int s2), .val (.int s3), .val (.int (0 : Int32)), .unset, .unset, .unset, .unset, .unset, .unset, .unset] [(.long q1)]))
        refine Runs.by (fun _ hr => XS.lconst X21.here hx rfl (hb hby at_141) hr) ?_
        refine Runs.by (fun _ hr => XS.lcmp X21.here hx rfl (hb hby at_142) rfl hr) ?_
        by_cases hc143 : (lcmpW q1 (0 : Int64)) = (0 : Int32)
        · -- pc 143: (lcmpW q1 (0 : Int64)) = (0 : Int32)
          refine Runs.by (fun _ hr => XS.ifYes X21.here hx rfl (pc0 := 143) (pc' := 157) rfl (hb hby at_143) rfl ((if0 _ _).trans (teq hc143).1) (by decide) (by decide) hr) ?_
          show Runs p e below _ (T21.setTop (mkF m 157 #[.val (.long q0), .second, .val (.long q1), .second, .val (.int p2), .val (.int p3), .val (.int p4), .val (.long da), .second, .val (.long db), .second, .val (.int (0 : Int32)), .val (.int (0 : Int32)), .val (.ref b1), .val (.int (0 : Int32)), .val (.int s2), .val (.int s3), .val (.int (0 : Int32)), .unset, .unset, .unset, .unset, .unset, .unset, .unset] []))
          refine Runs.by (fun _ hr => XS.iconst X21.here hx rfl (hb hby at_157) hr) ?_
          refine Runs.by (fun _ hr => XS.istore X21.here hx rfl (hb hby at_158) rfl (l' := #[.val (.long q0), .second, .val (.long q1), .second, .val (.int p2), .val (.int p3), .val (.int p4), .val (.long da), .second, .val (.long db), .second, .val (.int (0 : Int32)), .val (.int (0 : Int32)), .val (.ref b1), .val (.int (0 : Int32)), .val (.int s2), .val (.int s3), .val (.int (0 : Int32)), .val (.int (0 : Int32)), .unset, .unset, .unset, .unset, .unset, .unset]) rfl hr) ?_
          have zD2 : own_D q1 db = 0 := own_Dz1 (own_lcz.mp hc143)
          refine Runs.by (fun _ hr => XS.iload X21.here hx rfl (hb hby at_160) rfl  hr) ?_
          show Runs p e below _ (T21.setTop (mkF m 162 #[.val (.long q0), .second, .val (.long q1), .second, .val (.int p2), .val (.int p3), .val (.int p4), .val (.long da), .second, .val (.long db), .second, .val (.int (0 : Int32)), .val (.int (0 : Int32)), .val (.ref b1), .val (.int (0 : Int32)), .val (.int s2), .val (.int s3), .val (.int (0 : Int32)), .val (.int (0 : Int32)), .unset, .unset, .unset, .unset, .unset, .unset] [(.int (0 : Int32))]))
          have hc162 : (0 : Int32) = (0 : Int32) := (by decide)
          refine Runs.by (fun _ hr => XS.ifYes X21.here hx rfl (pc0 := 162) (pc' := 174) rfl (hb hby at_162) rfl ((if0 _ _).trans (teq hc162).1) (by decide) (by decide) hr) ?_
          refine Runs.by (fun _ hr => XS.iconst X21.here hx rfl (hb hby at_174) hr) ?_
          refine Runs.by (fun _ hr => XS.istore X21.here hx rfl (hb hby at_175) rfl (l' := #[.val (.long q0), .second, .val (.long q1), .second, .val (.int p2), .val (.int p3), .val (.int p4), .val (.long da), .second, .val (.long db), .second, .val (.int (0 : Int32)), .val (.int (0 : Int32)), .val (.ref b1), .val (.int (0 : Int32)), .val (.int s2), .val (.int s3), .val (.int (0 : Int32)), .val (.int (0 : Int32)), .val (.int (0 : Int32)), .unset, .unset, .unset, .unset, .unset]) rfl hr) ?_
          show Runs p e below _ (T21.setTop (mkF m 177 #[.val (.long q0), .second, .val (.long q1), .second, .val (.int p2), .val (.int p3), .val (.int p4), .val (.long da), .second, .val (.long db), .second, .val (.int (0 : Int32)), .val (.int (0 : Int32)), .val (.ref b1), .val (.int (0 : Int32)), .val (.int s2), .val (.int s3), .val (.int (0 : Int32)), .val (.int (0 : Int32)), .val (.int (0 : Int32)), .unset, .unset, .unset, .unset, .unset] []))
          refine Runs.by (fun _ hr => XS.iload X21.here hx rfl (hb hby at_177) rfl  hr) ?_
          have hc179 : (0 : Int32) = (0 : Int32) := (by decide)
          refine Runs.by (fun _ hr => XS.ifYes X21.here hx rfl (pc0 := 179) (pc' := 248) rfl (hb hby at_179) rfl ((if0 _ _).trans (teq hc179).1) (by decide) (by decide) hr) ?_
          refine Runs.by (fun _ hr => XS.iload X21.here hx rfl (hb hby at_248) rfl  hr) ?_
          show Runs p e below _ (T21.setTop (mkF m 250 #[.val (.long q0), .second, .val (.long q1), .second, .val (.int p2), .val (.int p3), .val (.int p4), .val (.long da), .second, .val (.long db), .second, .val (.int (0 : Int32)), .val (.int (0 : Int32)), .val (.ref b1), .val (.int (0 : Int32)), .val (.int s2), .val (.int s3), .val (.int (0 : Int32)), .val (.int (0 : Int32)), .val (.int (0 : Int32)), .unset, .unset, .unset, .unset, .unset] [(.int (0 : Int32))]))
          have hc250 : (0 : Int32) = (0 : Int32) := (by decide)
          refine Runs.by (fun _ hr => XS.ifYes X21.here hx rfl (pc0 := 250) (pc' := 258) rfl (hb hby at_250) rfl ((if0 _ _).trans (teq hc250).1) (by decide) (by decide) hr) ?_
          refine Runs.by (fun _ hr => XS.iload X21.here hx rfl (hb hby at_258) rfl  hr) ?_
          have hc260 : (0 : Int32) = (0 : Int32) := (by decide)
          refine Runs.by (fun _ hr => XS.ifYes X21.here hx rfl (pc0 := 260) (pc' := 272) rfl (hb hby at_260) rfl ((if0 _ _).trans (teq hc260).1) (by decide) (by decide) hr) ?_
          show Runs p e below _ (T21.setTop (mkF m 272 #[.val (.long q0), .second, .val (.long q1), .second, .val (.int p2), .val (.int p3), .val (.int p4), .val (.long da), .second, .val (.long db), .second, .val (.int (0 : Int32)), .val (.int (0 : Int32)), .val (.ref b1), .val (.int (0 : Int32)), .val (.int s2), .val (.int s3), .val (.int (0 : Int32)), .val (.int (0 : Int32)), .val (.int (0 : Int32)), .unset, .unset, .unset, .unset, .unset] []))
          refine Runs.by (fun _ hr => XS.iconst X21.here hx rfl (hb hby at_272) hr) ?_
          refine Runs.by (fun _ hr => XS.istore X21.here hx rfl (hb hby at_273) rfl (l' := #[.val (.long q0), .second, .val (.long q1), .second, .val (.int p2), .val (.int p3), .val (.int p4), .val (.long da), .second, .val (.long db), .second, .val (.int (0 : Int32)), .val (.int (0 : Int32)), .val (.ref b1), .val (.int (0 : Int32)), .val (.int s2), .val (.int s3), .val (.int (0 : Int32)), .val (.int (0 : Int32)), .val (.int (0 : Int32)), .val (.int (0 : Int32)), .unset, .unset, .unset, .unset]) rfl hr) ?_
          refine Runs.by (fun _ hr => XS.iload X21.here hx rfl (hb hby at_275) rfl  hr) ?_
          show Runs p e below _ (T21.setTop (mkF m 277 #[.val (.long q0), .second, .val (.long q1), .second, .val (.int p2), .val (.int p3), .val (.int p4), .val (.long da), .second, .val (.long db), .second, .val (.int (0 : Int32)), .val (.int (0 : Int32)), .val (.ref b1), .val (.int (0 : Int32)), .val (.int s2), .val (.int s3), .val (.int (0 : Int32)), .val (.int (0 : Int32)), .val (.int (0 : Int32)), .val (.int (0 : Int32)), .unset, .unset, .unset, .unset] [(.int (0 : Int32))]))
          have hc277 : (0 : Int32) = (0 : Int32) := (by decide)
          refine Runs.by (fun _ hr => XS.ifNo X21.here hx rfl (hb hby at_277) rfl ((if0 _ _).trans (teq hc277).2) hr) ?_
          refine Runs.by (fun _ hr => XS.iload X21.here hx rfl (hb hby at_280) rfl  hr) ?_
          refine Runs.by (fun _ hr => XS.iload X21.here hx rfl (hb hby at_282) rfl  hr) ?_
          show Runs p e below _ (T21.setTop (mkF m 284 #[.val (.long q0), .second, .val (.long q1), .second, .val (.int p2), .val (.int p3), .val (.int p4), .val (.long da), .second, .val (.long db), .second, .val (.int (0 : Int32)), .val (.int (0 : Int32)), .val (.ref b1), .val (.int (0 : Int32)), .val (.int s2), .val (.int s3), .val (.int (0 : Int32)), .val (.int (0 : Int32)), .val (.int (0 : Int32)), .val (.int (0 : Int32)), .unset, .unset, .unset, .unset] [(.int (0 : Int32)), (.int s2)]))
          have hc284 : s2 = (0 : Int32) := (by simp [hs2, zD1])
          refine Runs.by (fun _ hr => XS.icmpNo X21.here hx rfl (hb hby at_284) rfl (teq hc284).2 hr) ?_
          refine Runs.by (fun _ hr => XS.iload X21.here hx rfl (hb hby at_287) rfl  hr) ?_
          refine Runs.by (fun _ hr => XS.iload X21.here hx rfl (hb hby at_289) rfl  hr) ?_
          show Runs p e below _ (T21.setTop (mkF m 291 #[.val (.long q0), .second, .val (.long q1), .second, .val (.int p2), .val (.int p3), .val (.int p4), .val (.long da), .second, .val (.long db), .second, .val (.int (0 : Int32)), .val (.int (0 : Int32)), .val (.ref b1), .val (.int (0 : Int32)), .val (.int s2), .val (.int s3), .val (.int (0 : Int32)), .val (.int (0 : Int32)), .val (.int (0 : Int32)), .val (.int (0 : Int32)), .unset, .unset, .unset, .unset] [(.int (0 : Int32)), (.int s3)]))
          have hc291 : s3 = (0 : Int32) := (by simp [hs3, zD1, zD2])
          refine Runs.by (fun _ hr => XS.icmpNo X21.here hx rfl (hb hby at_291) rfl (teq hc291).2 hr) ?_
          refine Runs.by (fun _ hr => XS.iconst X21.here hx rfl (hb hby at_294) hr) ?_
          refine Runs.by (fun _ hr => XS.goto X21.here hx rfl (pc0 := 295) (pc' := 299) rfl (hb hby at_295) (by decide) (by decide) hr) ?_
          show Runs p e below _ (T21.setTop (mkF m 299 #[.val (.long q0), .second, .val (.long q1), .second, .val (.int p2), .val (.int p3), .val (.int p4), .val (.long da), .second, .val (.long db), .second, .val (.int (0 : Int32)), .val (.int (0 : Int32)), .val (.ref b1), .val (.int (0 : Int32)), .val (.int s2), .val (.int s3), .val (.int (0 : Int32)), .val (.int (0 : Int32)), .val (.int (0 : Int32)), .val (.int (0 : Int32)), .unset, .unset, .unset, .unset] [(.int (1 : Int32))]))
          refine Runs.ret X21 hx hrt hlk (Or.inl ⟨rfl, by simp, _, rfl⟩) (by rfl) (hb hby at_299) (by decide) (by decide) ?_
          exact ⟨rfl, N21⟩
        · -- pc 143: not (lcmpW q1 (0 : Int64)) = (0 : Int32)
          refine Runs.by (fun _ hr => XS.ifNo X21.here hx rfl (hb hby at_143) rfl ((if0 _ _).trans (feq hc143).1) hr) ?_
          show Runs p e below _ (T21.setTop (mkF m 146 #[.val (.long q0), .second, .val (.long q1), .second, .val (.int p2), .val (.int p3), .val (.int p4), .val (.long da), .second, .val (.long db), .second, .val (.int (0 : Int32)), .val (.int (0 : Int32)), .val (.ref b1), .val (.int (0 : Int32)), .val (.int s2), .val (.int s3), .val (.int (0 : Int32)), .unset, .unset, .unset, .unset, .unset, .unset, .unset] []))
          refine Runs.by (fun _ hr => XS.lload X21.here hx rfl (hb hby at_146) rfl  hr) ?_
          refine Runs.by (fun _ hr => XS.lconst X21.here hx rfl (hb hby at_148) hr) ?_
          refine Runs.by (fun _ hr => XS.lcmp X21.here hx rfl (hb hby at_149) rfl hr) ?_
          show Runs p e below _ (T21.setTop (mkF m 150 #[.val (.long q0), .second, .val (.long q1), .second, .val (.int p2), .val (.int p3), .val (.int p4), .val (.long da), .second, .val (.long db), .second, .val (.int (0 : Int32)), .val (.int (0 : Int32)), .val (.ref b1), .val (.int (0 : Int32)), .val (.int s2), .val (.int s3), .val (.int (0 : Int32)), .unset, .unset, .unset, .unset, .unset, .unset, .unset] [(.int (lcmpW db (0 : Int64)))]))
          by_cases hc150 : (lcmpW db (0 : Int64)) = (0 : Int32)
          · -- pc 150: (lcmpW db (0 : Int64)) = (0 : Int32)
            refine Runs.by (fun _ hr => XS.ifYes X21.here hx rfl (pc0 := 150) (pc' := 157) rfl (hb hby at_150) rfl ((if0 _ _).trans (teq hc150).1) (by decide) (by decide) hr) ?_
            refine Runs.by (fun _ hr => XS.iconst X21.here hx rfl (hb hby at_157) hr) ?_
            refine Runs.by (fun _ hr => XS.istore X21.here hx rfl (hb hby at_158) rfl (l' := #[.val (.long q0), .second, .val (.long q1), .second, .val (.int p2), .val (.int p3), .val (.int p4), .val (.long da), .second, .val (.long db), .second, .val (.int (0 : Int32)), .val (.int (0 : Int32)), .val (.ref b1), .val (.int (0 : Int32)), .val (.int s2), .val (.int s3), .val (.int (0 : Int32)), .val (.int (0 : Int32)), .unset, .unset, .unset, .unset, .unset, .unset]) rfl hr) ?_
            have zD2 : own_D q1 db = 0 := own_Dz2 (own_lcz.mp hc150)
            show Runs p e below _ (T21.setTop (mkF m 160 #[.val (.long q0), .second, .val (.long q1), .second, .val (.int p2), .val (.int p3), .val (.int p4), .val (.long da), .second, .val (.long db), .second, .val (.int (0 : Int32)), .val (.int (0 : Int32)), .val (.ref b1), .val (.int (0 : Int32)), .val (.int s2), .val (.int s3), .val (.int (0 : Int32)), .val (.int (0 : Int32)), .unset, .unset, .unset, .unset, .unset, .unset] []))
            refine Runs.by (fun _ hr => XS.iload X21.here hx rfl (hb hby at_160) rfl  hr) ?_
            have hc162 : (0 : Int32) = (0 : Int32) := (by decide)
            refine Runs.by (fun _ hr => XS.ifYes X21.here hx rfl (pc0 := 162) (pc' := 174) rfl (hb hby at_162) rfl ((if0 _ _).trans (teq hc162).1) (by decide) (by decide) hr) ?_
            refine Runs.by (fun _ hr => XS.iconst X21.here hx rfl (hb hby at_174) hr) ?_
            show Runs p e below _ (T21.setTop (mkF m 175 #[.val (.long q0), .second, .val (.long q1), .second, .val (.int p2), .val (.int p3), .val (.int p4), .val (.long da), .second, .val (.long db), .second, .val (.int (0 : Int32)), .val (.int (0 : Int32)), .val (.ref b1), .val (.int (0 : Int32)), .val (.int s2), .val (.int s3), .val (.int (0 : Int32)), .val (.int (0 : Int32)), .unset, .unset, .unset, .unset, .unset, .unset] [(.int (0 : Int32))]))
            refine Runs.by (fun _ hr => XS.istore X21.here hx rfl (hb hby at_175) rfl (l' := #[.val (.long q0), .second, .val (.long q1), .second, .val (.int p2), .val (.int p3), .val (.int p4), .val (.long da), .second, .val (.long db), .second, .val (.int (0 : Int32)), .val (.int (0 : Int32)), .val (.ref b1), .val (.int (0 : Int32)), .val (.int s2), .val (.int s3), .val (.int (0 : Int32)), .val (.int (0 : Int32)), .val (.int (0 : Int32)), .unset, .unset, .unset, .unset, .unset]) rfl hr) ?_
            refine Runs.by (fun _ hr => XS.iload X21.here hx rfl (hb hby at_177) rfl  hr) ?_
            have hc179 : (0 : Int32) = (0 : Int32) := (by decide)
            refine Runs.by (fun _ hr => XS.ifYes X21.here hx rfl (pc0 := 179) (pc' := 248) rfl (hb hby at_179) rfl ((if0 _ _).trans (teq hc179).1) (by decide) (by decide) hr) ?_
            show Runs p e below _ (T21.setTop (mkF m 248 #[.val (.long q0), .second, .val (.long q1), .second, .val (.int p2), .val (.int p3), .val (.int p4), .val (.long da), .second, .val (.long db), .second, .val (.int (0 : Int32)), .val (.int (0 : Int32)), .val (.ref b1), .val (.int (0 : Int32)), .val (.int s2), .val (.int s3), .val (.int (0 : Int32)), .val (.int (0 : Int32)), .val (.int (0 : Int32)), .unset, .unset, .unset, .unset, .unset] []))
            refine Runs.by (fun _ hr => XS.iload X21.here hx rfl (hb hby at_248) rfl  hr) ?_
            have hc250 : (0 : Int32) = (0 : Int32) := (by decide)
            refine Runs.by (fun _ hr => XS.ifYes X21.here hx rfl (pc0 := 250) (pc' := 258) rfl (hb hby at_250) rfl ((if0 _ _).trans (teq hc250).1) (by decide) (by decide) hr) ?_
            refine Runs.by (fun _ hr => XS.iload X21.here hx rfl (hb hby at_258) rfl  hr) ?_
            show Runs p e below _ (T21.setTop (mkF m 260 #[.val (.long q0), .second, .val (.long q1), .second, .val (.int p2), .val (.int p3), .val (.int p4), .val (.long da), .second, .val (.long db), .second, .val (.int (0 : Int32)), .val (.int (0 : Int32)), .val (.ref b1), .val (.int (0 : Int32)), .val (.int s2), .val (.int s3), .val (.int (0 : Int32)), .val (.int (0 : Int32)), .val (.int (0 : Int32)), .unset, .unset, .unset, .unset, .unset] [(.int (0 : Int32))]))
            have hc260 : (0 : Int32) = (0 : Int32) := (by decide)
            refine Runs.by (fun _ hr => XS.ifYes X21.here hx rfl (pc0 := 260) (pc' := 272) rfl (hb hby at_260) rfl ((if0 _ _).trans (teq hc260).1) (by decide) (by decide) hr) ?_
            refine Runs.by (fun _ hr => XS.iconst X21.here hx rfl (hb hby at_272) hr) ?_
            refine Runs.by (fun _ hr => XS.istore X21.here hx rfl (hb hby at_273) rfl (l' := #[.val (.long q0), .second, .val (.long q1), .second, .val (.int p2), .val (.int p3), .val (.int p4), .val (.long da), .second, .val (.long db), .second, .val (.int (0 : Int32)), .val (.int (0 : Int32)), .val (.ref b1), .val (.int (0 : Int32)), .val (.int s2), .val (.int s3), .val (.int (0 : Int32)), .val (.int (0 : Int32)), .val (.int (0 : Int32)), .val (.int (0 : Int32)), .unset, .unset, .unset, .unset]) rfl hr) ?_
            show Runs p e below _ (T21.setTop (mkF m 275 #[.val (.long q0), .second, .val (.long q1), .second, .val (.int p2), .val (.int p3), .val (.int p4), .val (.long da), .second, .val (.long db), .second, .val (.int (0 : Int32)), .val (.int (0 : Int32)), .val (.ref b1), .val (.int (0 : Int32)), .val (.int s2), .val (.int s3), .val (.int (0 : Int32)), .val (.int (0 : Int32)), .val (.int (0 : Int32)), .val (.int (0 : Int32)), .unset, .unset, .unset, .unset] []))
            refine Runs.by (fun _ hr => XS.iload X21.here hx rfl (hb hby at_275) rfl  hr) ?_
            have hc277 : (0 : Int32) = (0 : Int32) := (by decide)
            refine Runs.by (fun _ hr => XS.ifNo X21.here hx rfl (hb hby at_277) rfl ((if0 _ _).trans (teq hc277).2) hr) ?_
            refine Runs.by (fun _ hr => XS.iload X21.here hx rfl (hb hby at_280) rfl  hr) ?_
            show Runs p e below _ (T21.setTop (mkF m 282 #[.val (.long q0), .second, .val (.long q1), .second, .val (.int p2), .val (.int p3), .val (.int p4), .val (.long da), .second, .val (.long db), .second, .val (.int (0 : Int32)), .val (.int (0 : Int32)), .val (.ref b1), .val (.int (0 : Int32)), .val (.int s2), .val (.int s3), .val (.int (0 : Int32)), .val (.int (0 : Int32)), .val (.int (0 : Int32)), .val (.int (0 : Int32)), .unset, .unset, .unset, .unset] [(.int s2)]))
            refine Runs.by (fun _ hr => XS.iload X21.here hx rfl (hb hby at_282) rfl  hr) ?_
            have hc284 : s2 = (0 : Int32) := (by simp [hs2, zD1])
            refine Runs.by (fun _ hr => XS.icmpNo X21.here hx rfl (hb hby at_284) rfl (teq hc284).2 hr) ?_
            refine Runs.by (fun _ hr => XS.iload X21.here hx rfl (hb hby at_287) rfl  hr) ?_
            show Runs p e below _ (T21.setTop (mkF m 289 #[.val (.long q0), .second, .val (.long q1), .second, .val (.int p2), .val (.int p3), .val (.int p4), .val (.long da), .second, .val (.long db), .second, .val (.int (0 : Int32)), .val (.int (0 : Int32)), .val (.ref b1), .val (.int (0 : Int32)), .val (.int s2), .val (.int s3), .val (.int (0 : Int32)), .val (.int (0 : Int32)), .val (.int (0 : Int32)), .val (.int (0 : Int32)), .unset, .unset, .unset, .unset] [(.int s3)]))
            refine Runs.by (fun _ hr => XS.iload X21.here hx rfl (hb hby at_289) rfl  hr) ?_
            have hc291 : s3 = (0 : Int32) := (by simp [hs3, zD1, zD2])
            refine Runs.by (fun _ hr => XS.icmpNo X21.here hx rfl (hb hby at_291) rfl (teq hc291).2 hr) ?_
            refine Runs.by (fun _ hr => XS.iconst X21.here hx rfl (hb hby at_294) hr) ?_
            show Runs p e below _ (T21.setTop (mkF m 295 #[.val (.long q0), .second, .val (.long q1), .second, .val (.int p2), .val (.int p3), .val (.int p4), .val (.long da), .second, .val (.long db), .second, .val (.int (0 : Int32)), .val (.int (0 : Int32)), .val (.ref b1), .val (.int (0 : Int32)), .val (.int s2), .val (.int s3), .val (.int (0 : Int32)), .val (.int (0 : Int32)), .val (.int (0 : Int32)), .val (.int (0 : Int32)), .unset, .unset, .unset, .unset] [(.int (1 : Int32))]))
            refine Runs.by (fun _ hr => XS.goto X21.here hx rfl (pc0 := 295) (pc' := 299) rfl (hb hby at_295) (by decide) (by decide) hr) ?_
            show Runs p e below _ (T21.setTop (mkF m 299 #[.val (.long q0), .second, .val (.long q1), .second, .val (.int p2), .val (.int p3), .val (.int p4), .val (.long da), .second, .val (.long db), .second, .val (.int (0 : Int32)), .val (.int (0 : Int32)), .val (.ref b1), .val (.int (0 : Int32)), .val (.int s2), .val (.int s3), .val (.int (0 : Int32)), .val (.int (0 : Int32)), .val (.int (0 : Int32)), .val (.int (0 : Int32)), .unset, .unset, .unset, .unset] [(.int (1 : Int32))]))
            refine Runs.ret X21 hx hrt hlk (Or.inl ⟨rfl, by simp, _, rfl⟩) (by rfl) (hb hby at_299) (by decide) (by decide) ?_
            exact ⟨rfl, N21⟩
          · -- pc 150: not (lcmpW db (0 : Int64)) = (0 : Int32)
            refine Runs.by (fun _ hr => XS.ifNo X21.here hx rfl (hb hby at_150) rfl ((if0 _ _).trans (feq hc150).1) hr) ?_
            refine Runs.by (fun _ hr => XS.iconst X21.here hx rfl (hb hby at_153) hr) ?_
            refine Runs.by (fun _ hr => XS.goto X21.here hx rfl (pc0 := 154) (pc' := 158) rfl (hb hby at_154) (by decide) (by decide) hr) ?_
            show Runs p e below _ (T21.setTop (mkF m 158 #[.val (.long q0), .second, .val (.long q1), .second, .val (.int p2), .val (.int p3), .val (.int p4), .val (.long da), .second, .val (.long db), .second, .val (.int (0 : Int32)), .val (.int (0 : Int32)), .val (.ref b1), .val (.int (0 : Int32)), .val (.int s2), .val (.int s3), .val (.int (0 : Int32)), .unset, .unset, .unset, .unset, .unset, .unset, .unset] [(.int (1 : Int32))]))
            refine Runs.by (fun _ hr => XS.istore X21.here hx rfl (hb hby at_158) rfl (l' := #[.val (.long q0), .second, .val (.long q1), .second, .val (.int p2), .val (.int p3), .val (.int p4), .val (.long da), .second, .val (.long db), .second, .val (.int (0 : Int32)), .val (.int (0 : Int32)), .val (.ref b1), .val (.int (0 : Int32)), .val (.int s2), .val (.int s3), .val (.int (0 : Int32)), .val (.int (1 : Int32)), .unset, .unset, .unset, .unset, .unset, .unset]) rfl hr) ?_
            have zD2 : own_D q1 db = db := own_Dn (fun z => hc143 (own_lcz.mpr z))
            have nD2 : ¬ db = 0 := fun z => hc150 (own_lcz.mpr z)
            refine Runs.by (fun _ hr => XS.iload X21.here hx rfl (hb hby at_160) rfl  hr) ?_
            have hc162 : (0 : Int32) = (0 : Int32) := (by decide)
            refine Runs.by (fun _ hr => XS.ifYes X21.here hx rfl (pc0 := 162) (pc' := 174) rfl (hb hby at_162) rfl ((if0 _ _).trans (teq hc162).1) (by decide) (by decide) hr) ?_
            show Runs p e below _ (T21.setTop (mkF m 174 #[.val (.long q0), .second, .val (.long q1), .second, .val (.int p2), .val (.int p3), .val (.int p4), .val (.long da), .second, .val (.long db), .second, .val (.int (0 : Int32)), .val (.int (0 : Int32)), .val (.ref b1), .val (.int (0 : Int32)), .val (.int s2), .val (.int s3), .val (.int (0 : Int32)), .val (.int (1 : Int32)), .unset, .unset, .unset, .unset, .unset, .unset] []))
            refine Runs.by (fun _ hr => XS.iconst X21.here hx rfl (hb hby at_174) hr) ?_
            refine Runs.by (fun _ hr => XS.istore X21.here hx rfl (hb hby at_175) rfl (l' := #[.val (.long q0), .second, .val (.long q1), .second, .val (.int p2), .val (.int p3), .val (.int p4), .val (.long da), .second, .val (.long db), .second, .val (.int (0 : Int32)), .val (.int (0 : Int32)), .val (.ref b1), .val (.int (0 : Int32)), .val (.int s2), .val (.int s3), .val (.int (0 : Int32)), .val (.int (1 : Int32)), .val (.int (0 : Int32)), .unset, .unset, .unset, .unset, .unset]) rfl hr) ?_
            refine Runs.by (fun _ hr => XS.iload X21.here hx rfl (hb hby at_177) rfl  hr) ?_
            show Runs p e below _ (T21.setTop (mkF m 179 #[.val (.long q0), .second, .val (.long q1), .second, .val (.int p2), .val (.int p3), .val (.int p4), .val (.long da), .second, .val (.long db), .second, .val (.int (0 : Int32)), .val (.int (0 : Int32)), .val (.ref b1), .val (.int (0 : Int32)), .val (.int s2), .val (.int s3), .val (.int (0 : Int32)), .val (.int (1 : Int32)), .val (.int (0 : Int32)), .unset, .unset, .unset, .unset, .unset] [(.int (0 : Int32))]))
            have hc179 : (0 : Int32) = (0 : Int32) := (by decide)
            refine Runs.by (fun _ hr => XS.ifYes X21.here hx rfl (pc0 := 179) (pc' := 248) rfl (hb hby at_179) rfl ((if0 _ _).trans (teq hc179).1) (by decide) (by decide) hr) ?_
            refine Runs.by (fun _ hr => XS.iload X21.here hx rfl (hb hby at_248) rfl  hr) ?_
            have hc250 : (0 : Int32) = (0 : Int32) := (by decide)
            refine Runs.by (fun _ hr => XS.ifYes X21.here hx rfl (pc0 := 250) (pc' := 258) rfl (hb hby at_250) rfl ((if0 _ _).trans (teq hc250).1) (by decide) (by decide) hr) ?_
            show Runs p e below _ (T21.setTop (mkF m 258 #[.val (.long q0), .second, .val (.long q1), .second, .val (.int p2), .val (.int p3), .val (.int p4), .val (.long da), .second, .val (.long db), .second, .val (.int (0 : Int32)), .val (.int (0 : Int32)), .val (.ref b1), .val (.int (0 : Int32)), .val (.int s2), .val (.int s3), .val (.int (0 : Int32)), .val (.int (1 : Int32)), .val (.int (0 : Int32)), .unset, .unset, .unset, .unset, .unset] []))
            refine Runs.by (fun _ hr => XS.iload X21.here hx rfl (hb hby at_258) rfl  hr) ?_
            have hc260 : ¬ ((1 : Int32) = (0 : Int32)) := (by decide)
            refine Runs.by (fun _ hr => XS.ifNo X21.here hx rfl (hb hby at_260) rfl ((if0 _ _).trans (feq hc260).1) hr) ?_
            refine Runs.by (fun _ hr => XS.iload X21.here hx rfl (hb hby at_263) rfl  hr) ?_
            show Runs p e below _ (T21.setTop (mkF m 265 #[.val (.long q0), .second, .val (.long q1), .second, .val (.int p2), .val (.int p3), .val (.int p4), .val (.long da), .second, .val (.long db), .second, .val (.int (0 : Int32)), .val (.int (0 : Int32)), .val (.ref b1), .val (.int (0 : Int32)), .val (.int s2), .val (.int s3), .val (.int (0 : Int32)), .val (.int (1 : Int32)), .val (.int (0 : Int32)), .unset, .unset, .unset, .unset, .unset] [(.int (0 : Int32))]))
            have hc265 : (0 : Int32) = (0 : Int32) := (by decide)
            refine Runs.by (fun _ hr => XS.ifNo X21.here hx rfl (hb hby at_265) rfl ((if0 _ _).trans (teq hc265).2) hr) ?_
            refine Runs.by (fun _ hr => XS.iconst X21.here hx rfl (hb hby at_268) hr) ?_
            refine Runs.by (fun _ hr => XS.goto X21.here hx rfl (pc0 := 269) (pc' := 273) rfl (hb hby at_269) (by decide) (by decide) hr) ?_
            show Runs p e below _ (T21.setTop (mkF m 273 #[.val (.long q0), .second, .val (.long q1), .second, .val (.int p2), .val (.int p3), .val (.int p4), .val (.long da), .second, .val (.long db), .second, .val (.int (0 : Int32)), .val (.int (0 : Int32)), .val (.ref b1), .val (.int (0 : Int32)), .val (.int s2), .val (.int s3), .val (.int (0 : Int32)), .val (.int (1 : Int32)), .val (.int (0 : Int32)), .unset, .unset, .unset, .unset, .unset] [(.int (1 : Int32))]))
            refine Runs.by (fun _ hr => XS.istore X21.here hx rfl (hb hby at_273) rfl (l' := #[.val (.long q0), .second, .val (.long q1), .second, .val (.int p2), .val (.int p3), .val (.int p4), .val (.long da), .second, .val (.long db), .second, .val (.int (0 : Int32)), .val (.int (0 : Int32)), .val (.ref b1), .val (.int (0 : Int32)), .val (.int s2), .val (.int s3), .val (.int (0 : Int32)), .val (.int (1 : Int32)), .val (.int (0 : Int32)), .val (.int (1 : Int32)), .unset, .unset, .unset, .unset]) rfl hr) ?_
            refine Runs.by (fun _ hr => XS.iload X21.here hx rfl (hb hby at_275) rfl  hr) ?_
            have hc277 : (0 : Int32) = (0 : Int32) := (by decide)
            refine Runs.by (fun _ hr => XS.ifNo X21.here hx rfl (hb hby at_277) rfl ((if0 _ _).trans (teq hc277).2) hr) ?_
            show Runs p e below _ (T21.setTop (mkF m 280 #[.val (.long q0), .second, .val (.long q1), .second, .val (.int p2), .val (.int p3), .val (.int p4), .val (.long da), .second, .val (.long db), .second, .val (.int (0 : Int32)), .val (.int (0 : Int32)), .val (.ref b1), .val (.int (0 : Int32)), .val (.int s2), .val (.int s3), .val (.int (0 : Int32)), .val (.int (1 : Int32)), .val (.int (0 : Int32)), .val (.int (1 : Int32)), .unset, .unset, .unset, .unset] []))
            refine Runs.by (fun _ hr => XS.iload X21.here hx rfl (hb hby at_280) rfl  hr) ?_
            refine Runs.by (fun _ hr => XS.iload X21.here hx rfl (hb hby at_282) rfl  hr) ?_
            have hc284 : s2 = (0 : Int32) := (by simp [hs2, zD1])
            refine Runs.by (fun _ hr => XS.icmpNo X21.here hx rfl (hb hby at_284) rfl (teq hc284).2 hr) ?_
            show Runs p e below _ (T21.setTop (mkF m 287 #[.val (.long q0), .second, .val (.long q1), .second, .val (.int p2), .val (.int p3), .val (.int p4), .val (.long da), .second, .val (.long db), .second, .val (.int (0 : Int32)), .val (.int (0 : Int32)), .val (.ref b1), .val (.int (0 : Int32)), .val (.int s2), .val (.int s3), .val (.int (0 : Int32)), .val (.int (1 : Int32)), .val (.int (0 : Int32)), .val (.int (1 : Int32)), .unset, .unset, .unset, .unset] []))
            refine Runs.by (fun _ hr => XS.iload X21.here hx rfl (hb hby at_287) rfl  hr) ?_
            refine Runs.by (fun _ hr => XS.iload X21.here hx rfl (hb hby at_289) rfl  hr) ?_
            have hc291 : s3 = (1 : Int32) := (by simp [hs3, zD1, zD2, nD2])
            refine Runs.by (fun _ hr => XS.icmpNo X21.here hx rfl (hb hby at_291) rfl (teq hc291).2 hr) ?_
            show Runs p e below _ (T21.setTop (mkF m 294 #[.val (.long q0), .second, .val (.long q1), .second, .val (.int p2), .val (.int p3), .val (.int p4), .val (.long da), .second, .val (.long db), .second, .val (.int (0 : Int32)), .val (.int (0 : Int32)), .val (.ref b1), .val (.int (0 : Int32)), .val (.int s2), .val (.int s3), .val (.int (0 : Int32)), .val (.int (1 : Int32)), .val (.int (0 : Int32)), .val (.int (1 : Int32)), .unset, .unset, .unset, .unset] []))
            refine Runs.by (fun _ hr => XS.iconst X21.here hx rfl (hb hby at_294) hr) ?_
            refine Runs.by (fun _ hr => XS.goto X21.here hx rfl (pc0 := 295) (pc' := 299) rfl (hb hby at_295) (by decide) (by decide) hr) ?_
            show Runs p e below _ (T21.setTop (mkF m 299 #[.val (.long q0), .second, .val (.long q1), .second, .val (.int p2), .val (.int p3), .val (.int p4), .val (.long da), .second, .val (.long db), .second, .val (.int (0 : Int32)), .val (.int (0 : Int32)), .val (.ref b1), .val (.int (0 : Int32)), .val (.int s2), .val (.int s3), .val (.int (0 : Int32)), .val (.int (1 : Int32)), .val (.int (0 : Int32)), .val (.int (1 : Int32)), .unset, .unset, .unset, .unset] [(.int (1 : Int32))]))
            refine Runs.ret X21 hx hrt hlk (Or.inl ⟨rfl, by simp, _, rfl⟩) (by rfl) (hb hby at_299) (by decide) (by decide) ?_
            exact ⟨rfl, N21⟩
      · -- pc 123: not (lcmpW q0 (0 : Int64)) = (0 : Int32)
        refine Runs.by (fun _ hr => XS.ifNo X21.here hx rfl (hb hby at_123) rfl ((if0 _ _).trans (feq hc123).1) hr) ?_
        show Runs p e below _ (T21.setTop (mkF m 126 #[.val (.long q0), .second, .val (.long q1), .second, .val (.int p2), .val (.int p3), .val (.int p4), .val (.long da), .second, .val (.long db), .second, .val (.int (0 : Int32)), .val (.int (0 : Int32)), .val (.ref b1), .val (.int (0 : Int32)), .val (.int s2), .val (.int s3), .unset, .unset, .unset, .unset, .unset, .unset, .unset, .unset] []))
        refine Runs.by (fun _ hr => XS.lload X21.here hx rfl (hb hby at_126) rfl  hr) ?_
        refine Runs.by (fun _ hr => XS.lconst X21.here hx rfl (hb hby at_128) hr) ?_
        refine Runs.by (fun _ hr => XS.lcmp X21.here hx rfl (hb hby at_129) rfl hr) ?_
        show Runs p e below _ (T21.setTop (mkF m 130 #[.val (.long q0), .second, .val (.long q1), .second, .val (.int p2), .val (.int p3), .val (.int p4), .val (.long da), .second, .val (.long db), .second, .val (.int (0 : Int32)), .val (.int (0 : Int32)), .val (.ref b1), .val (.int (0 : Int32)), .val (.int s2), .val (.int s3), .unset, .unset, .unset, .unset, .unset, .unset, .unset, .unset] [(.int (lcmpW da (0 : Int64)))]))
        by_cases hc130 : (lcmpW da (0 : Int64)) = (0 : Int32)
        · -- pc 130: (lcmpW da (0 : Int64)) = (0 : Int32)
          refine Runs.by (fun _ hr => XS.ifYes X21.here hx rfl (pc0 := 130) (pc' := 137) rfl (hb hby at_130) rfl ((if0 _ _).trans (teq hc130).1) (by decide) (by decide) hr) ?_
          refine Runs.by (fun _ hr => XS.iconst X21.here hx rfl (hb hby at_137) hr) ?_
          refine Runs.by (fun _ hr => XS.istore X21.here hx rfl (hb hby at_138) rfl (l' := #[.val (.long q0), .second, .val (.long q1), .second, .val (.int p2), .val (.int p3), .val (.int p4), .val (.long da), .second, .val (.long db), .second, .val (.int (0 : Int32)), .val (.int (0 : Int32)), .val (.ref b1), .val (.int (0 : Int32)), .val (.int s2), .val (.int s3), .val (.int (0 : Int32)), .unset, .unset, .unset, .unset, .unset, .unset, .unset]) rfl hr) ?_
          have zD1 : own_D q0 da = 0 := own_Dz2 (own_lcz.mp hc130)
          show Runs p e below _ (T21.setTop (mkF m 140 #[.val (.long q0), .second, .val (.long q1), .second, .val (.int p2), .val (.int p3), .val (.int p4), .val (.long da), .second, .val (.long db), .second, .val (.int (0 : Int32)), .val (.int (0 : Int32)), .val (.ref b1), .val (.int (0 : Int32)), .val (.int s2), .val (.int s3), .val (.int (0 : Int32)), .unset, .unset, .unset, .unset, .unset, .unset, .unset] []))
          refine Runs.by (fun _ hr => XS.lloadN X21.here hx rfl (hb hby at_140) rfl  hr) ?_
          refine Runs.by (fun _ hr => XS.lconst X21.here hx rfl (hb hby at_141) hr) ?_
          refine Runs.by (fun _ hr => XS.lcmp X21.here hx rfl (hb hby at_142) rfl hr) ?_
          show Runs p e below _ (T21.setTop (mkF m 143 #[.val (.long q0), .second, .val (.long q1), .second, .val (.int p2), .val (.int p3), .val (.int p4), .val (.long da), .second, .val (.long db), .second, .val (.int (0 : Int32)), .val (.int (0 : Int32)), .val (.ref b1), .val (.int (0 : Int32)), .val (.int s2), .val (.int s3), .val (.int (0 : Int32)), .unset, .unset, .unset, .unset, .unset, .unset, .unset] [(.int (lcmpW q1 (0 : Int64)))]))
          by_cases hc143 : (lcmpW q1 (0 : Int64)) = (0 : Int32)
          · -- pc 143: (lcmpW q1 (0 : Int64)) = (0 : Int32)
            refine Runs.by (fun _ hr => XS.ifYes X21.here hx rfl (pc0 := 143) (pc' := 157) rfl (hb hby at_143) rfl ((if0 _ _).trans (teq hc143).1) (by decide) (by decide) hr) ?_
            refine Runs.by (fun _ hr => XS.iconst X21.here hx rfl (hb hby at_157) hr) ?_
            refine Runs.by (fun _ hr => XS.istore X21.here hx rfl (hb hby at_158) rfl (l' := #[.val (.long q0), .second, .val (.long q1), .second, .val (.int p2), .val (.int p3), .val (.int p4), .val (.long da), .second, .val (.long db), .second, .val (.int (0 : Int32)), .val (.int (0 : Int32)), .val (.ref b1), .val (.int (0 : Int32)), .val (.int s2), .val (.int s3), .val (.int (0 : Int32)), .val (.int (0 : Int32)), .unset, .unset, .unset, .unset, .unset, .unset]) rfl hr) ?_
            have zD2 : own_D q1 db = 0 := own_Dz1 (own_lcz.mp hc143)
            show Runs p e below _ (T21.setTop (mkF m 160 #[.val (.long q0), .second, .val (.long q1), .second, .val (.int p2), .val (.int p3), .val (.int p4), .val (.long da), .second, .val (.long db), .second, .val (.int (0 : Int32)), .val (.int (0 : Int32)), .val (.ref b1), .val (.int (0 : Int32)), .val (.int s2), .val (.int s3), .val (.int (0 : Int32)), .val (.int (0 : Int32)), .unset, .unset, .unset, .unset, .unset, .unset] []))
            refine Runs.by (fun _ hr => XS.iload X21.here hx rfl (hb hby at_160) rfl  hr) ?_
            have hc162 : (0 : Int32) = (0 : Int32) := (by decide)
            refine Runs.by (fun _ hr => XS.ifYes X21.here hx rfl (pc0 := 162) (pc' := 174) rfl (hb hby at_162) rfl ((if0 _ _).trans (teq hc162).1) (by decide) (by decide) hr) ?_
            refine Runs.by (fun _ hr => XS.iconst X21.here hx rfl (hb hby at_174) hr) ?_
            show Runs p e below _ (T21.setTop (mkF m 175 #[.val (.long q0), .second, .val (.long q1), .second, .val (.int p2), .val (.int p3), .val (.int p4), .val (.long da), .second, .val (.long db), .second, .val (.int (0 : Int32)), .val (.int (0 : Int32)), .val (.ref b1), .val (.int (0 : Int32)), .val (.int s2), .val (.int s3), .val (.int (0 : Int32)), .val (.int (0 : Int32)), .unset, .unset, .unset, .unset, .unset, .unset] [(.int (0 : Int32))]))
            refine Runs.by (fun _ hr => XS.istore X21.here hx rfl (hb hby at_175) rfl (l' := #[.val (.long q0), .second, .val (.long q1), .second, .val (.int p2), .val (.int p3), .val (.int p4), .val (.long da), .second, .val (.long db), .second, .val (.int (0 : Int32)), .val (.int (0 : Int32)), .val (.ref b1), .val (.int (0 : Int32)), .val (.int s2), .val (.int s3), .val (.int (0 : Int32)), .val (.int (0 : Int32)), .val (.int (0 : Int32)), .unset, .unset, .unset, .unset, .unset]) rfl hr) ?_
            refine Runs.by (fun _ hr => XS.iload X21.here hx rfl (hb hby at_177) rfl  hr) ?_
            have hc179 : (0 : Int32) = (0 : Int32) := (by decide)
            refine Runs.by (fun _ hr => XS.ifYes X21.here hx rfl (pc0 := 179) (pc' := 248) rfl (hb hby at_179) rfl ((if0 _ _).trans (teq hc179).1) (by decide) (by decide) hr) ?_
            show Runs p e below _ (T21.setTop (mkF m 248 #[.val (.long q0), .second, .val (.long q1), .second, .val (.int p2), .val (.int p3), .val (.int p4), .val (.long da), .second, .val (.long db), .second, .val (.int (0 : Int32)), .val (.int (0 : Int32)), .val (.ref b1), .val (.int (0 : Int32)), .val (.int s2), .val (.int s3), .val (.int (0 : Int32)), .val (.int (0 : Int32)), .val (.int (0 : Int32)), .unset, .unset, .unset, .unset, .unset] []))
            refine Runs.by (fun _ hr => XS.iload X21.here hx rfl (hb hby at_248) rfl  hr) ?_
            have hc250 : (0 : Int32) = (0 : Int32) := (by decide)
            refine Runs.by (fun _ hr => XS.ifYes X21.here hx rfl (pc0 := 250) (pc' := 258) rfl (hb hby at_250) rfl ((if0 _ _).trans (teq hc250).1) (by decide) (by decide) hr) ?_
            refine Runs.by (fun _ hr => XS.iload X21.here hx rfl (hb hby at_258) rfl  hr) ?_
            show Runs p e below _ (T21.setTop (mkF m 260 #[.val (.long q0), .second, .val (.long q1), .second, .val (.int p2), .val (.int p3), .val (.int p4), .val (.long da), .second, .val (.long db), .second, .val (.int (0 : Int32)), .val (.int (0 : Int32)), .val (.ref b1), .val (.int (0 : Int32)), .val (.int s2), .val (.int s3), .val (.int (0 : Int32)), .val (.int (0 : Int32)), .val (.int (0 : Int32)), .unset, .unset, .unset, .unset, .unset] [(.int (0 : Int32))]))
            have hc260 : (0 : Int32) = (0 : Int32) := (by decide)
            refine Runs.by (fun _ hr => XS.ifYes X21.here hx rfl (pc0 := 260) (pc' := 272) rfl (hb hby at_260) rfl ((if0 _ _).trans (teq hc260).1) (by decide) (by decide) hr) ?_
            refine Runs.by (fun _ hr => XS.iconst X21.here hx rfl (hb hby at_272) hr) ?_
            refine Runs.by (fun _ hr => XS.istore X21.here hx rfl (hb hby at_273) rfl (l' := #[.val (.long q0), .second, .val (.long q1), .second, .val (.int p2), .val (.int p3), .val (.int p4), .val (.long da), .second, .val (.long db), .second, .val (.int (0 : Int32)), .val (.int (0 : Int32)), .val (.ref b1), .val (.int (0 : Int32)), .val (.int s2), .val (.int s3), .val (.int (0 : Int32)), .val (.int (0 : Int32)), .val (.int (0 : Int32)), .val (.int (0 : Int32)), .unset, .unset, .unset, .unset]) rfl hr) ?_
            show Runs p e below _ (T21.setTop (mkF m 275 #[.val (.long q0), .second, .val (.long q1), .second, .val (.int p2), .val (.int p3), .val (.int p4), .val (.long da), .second, .val (.long db), .second, .val (.int (0 : Int32)), .val (.int (0 : Int32)), .val (.ref b1), .val (.int (0 : Int32)), .val (.int s2), .val (.int s3), .val (.int (0 : Int32)), .val (.int (0 : Int32)), .val (.int (0 : Int32)), .val (.int (0 : Int32)), .unset, .unset, .unset, .unset] []))
            refine Runs.by (fun _ hr => XS.iload X21.here hx rfl (hb hby at_275) rfl  hr) ?_
            have hc277 : (0 : Int32) = (0 : Int32) := (by decide)
            refine Runs.by (fun _ hr => XS.ifNo X21.here hx rfl (hb hby at_277) rfl ((if0 _ _).trans (teq hc277).2) hr) ?_
            refine Runs.by (fun _ hr => XS.iload X21.here hx rfl (hb hby at_280) rfl  hr) ?_
            show Runs p e below _ (T21.setTop (mkF m 282 #[.val (.long q0), .second, .val (.long q1), .second, .val (.int p2), .val (.int p3), .val (.int p4), .val (.long da), .second, .val (.long db), .second, .val (.int (0 : Int32)), .val (.int (0 : Int32)), .val (.ref b1), .val (.int (0 : Int32)), .val (.int s2), .val (.int s3), .val (.int (0 : Int32)), .val (.int (0 : Int32)), .val (.int (0 : Int32)), .val (.int (0 : Int32)), .unset, .unset, .unset, .unset] [(.int s2)]))
            refine Runs.by (fun _ hr => XS.iload X21.here hx rfl (hb hby at_282) rfl  hr) ?_
            have hc284 : s2 = (0 : Int32) := (by simp [hs2, zD1])
            refine Runs.by (fun _ hr => XS.icmpNo X21.here hx rfl (hb hby at_284) rfl (teq hc284).2 hr) ?_
            refine Runs.by (fun _ hr => XS.iload X21.here hx rfl (hb hby at_287) rfl  hr) ?_
            show Runs p e below _ (T21.setTop (mkF m 289 #[.val (.long q0), .second, .val (.long q1), .second, .val (.int p2), .val (.int p3), .val (.int p4), .val (.long da), .second, .val (.long db), .second, .val (.int (0 : Int32)), .val (.int (0 : Int32)), .val (.ref b1), .val (.int (0 : Int32)), .val (.int s2), .val (.int s3), .val (.int (0 : Int32)), .val (.int (0 : Int32)), .val (.int (0 : Int32)), .val (.int (0 : Int32)), .unset, .unset, .unset, .unset] [(.int s3)]))
            refine Runs.by (fun _ hr => XS.iload X21.here hx rfl (hb hby at_289) rfl  hr) ?_
            have hc291 : s3 = (0 : Int32) := (by simp [hs3, zD1, zD2])
            refine Runs.by (fun _ hr => XS.icmpNo X21.here hx rfl (hb hby at_291) rfl (teq hc291).2 hr) ?_
            refine Runs.by (fun _ hr => XS.iconst X21.here hx rfl (hb hby at_294) hr) ?_
            show Runs p e below _ (T21.setTop (mkF m 295 #[.val (.long q0), .second, .val (.long q1), .second, .val (.int p2), .val (.int p3), .val (.int p4), .val (.long da), .second, .val (.long db), .second, .val (.int (0 : Int32)), .val (.int (0 : Int32)), .val (.ref b1), .val (.int (0 : Int32)), .val (.int s2), .val (.int s3), .val (.int (0 : Int32)), .val (.int (0 : Int32)), .val (.int (0 : Int32)), .val (.int (0 : Int32)), .unset, .unset, .unset, .unset] [(.int (1 : Int32))]))
            refine Runs.by (fun _ hr => XS.goto X21.here hx rfl (pc0 := 295) (pc' := 299) rfl (hb hby at_295) (by decide) (by decide) hr) ?_
            show Runs p e below _ (T21.setTop (mkF m 299 #[.val (.long q0), .second, .val (.long q1), .second, .val (.int p2), .val (.int p3), .val (.int p4), .val (.long da), .second, .val (.long db), .second, .val (.int (0 : Int32)), .val (.int (0 : Int32)), .val (.ref b1), .val (.int (0 : Int32)), .val (.int s2), .val (.int s3), .val (.int (0 : Int32)), .val (.int (0 : Int32)), .val (.int (0 : Int32)), .val (.int (0 : Int32)), .unset, .unset, .unset, .unset] [(.int (1 : Int32))]))
            refine Runs.ret X21 hx hrt hlk (Or.inl ⟨rfl, by simp, _, rfl⟩) (by rfl) (hb hby at_299) (by decide) (by decide) ?_
            exact ⟨rfl, N21⟩
          · -- pc 143: not (lcmpW q1 (0 : Int64)) = (0 : Int32)
            refine Runs.by (fun _ hr => XS.ifNo X21.here hx rfl (hb hby at_143) rfl ((if0 _ _).trans (feq hc143).1) hr) ?_
            refine Runs.by (fun _ hr => XS.lload X21.here hx rfl (hb hby at_146) rfl  hr) ?_
            refine Runs.by (fun _ hr => XS.lconst X21.here hx rfl (hb hby at_148) hr) ?_
            show Runs p e below _ (T21.setTop (mkF m 149 #[.val (.long q0), .second, .val (.long q1), .second, .val (.int p2), .val (.int p3), .val (.int p4), .val (.long da), .second, .val (.long db), .second, .val (.int (0 : Int32)), .val (.int (0 : Int32)), .val (.ref b1), .val (.int (0 : Int32)), .val (.int s2), .val (.int s3), .val (.int (0 : Int32)), .unset, .unset, .unset, .unset, .unset, .unset, .unset] [(.long (0 : Int64)), (.long db)]))
            refine Runs.by (fun _ hr => XS.lcmp X21.here hx rfl (hb hby at_149) rfl hr) ?_
            by_cases hc150 : (lcmpW db (0 : Int64)) = (0 : Int32)
            · -- pc 150: (lcmpW db (0 : Int64)) = (0 : Int32)
              refine Runs.by (fun _ hr => XS.ifYes X21.here hx rfl (pc0 := 150) (pc' := 157) rfl (hb hby at_150) rfl ((if0 _ _).trans (teq hc150).1) (by decide) (by decide) hr) ?_
              refine Runs.by (fun _ hr => XS.iconst X21.here hx rfl (hb hby at_157) hr) ?_
              show Runs p e below _ (T21.setTop (mkF m 158 #[.val (.long q0), .second, .val (.long q1), .second, .val (.int p2), .val (.int p3), .val (.int p4), .val (.long da), .second, .val (.long db), .second, .val (.int (0 : Int32)), .val (.int (0 : Int32)), .val (.ref b1), .val (.int (0 : Int32)), .val (.int s2), .val (.int s3), .val (.int (0 : Int32)), .unset, .unset, .unset, .unset, .unset, .unset, .unset] [(.int (0 : Int32))]))
              refine Runs.by (fun _ hr => XS.istore X21.here hx rfl (hb hby at_158) rfl (l' := #[.val (.long q0), .second, .val (.long q1), .second, .val (.int p2), .val (.int p3), .val (.int p4), .val (.long da), .second, .val (.long db), .second, .val (.int (0 : Int32)), .val (.int (0 : Int32)), .val (.ref b1), .val (.int (0 : Int32)), .val (.int s2), .val (.int s3), .val (.int (0 : Int32)), .val (.int (0 : Int32)), .unset, .unset, .unset, .unset, .unset, .unset]) rfl hr) ?_
              have zD2 : own_D q1 db = 0 := own_Dz2 (own_lcz.mp hc150)
              refine Runs.by (fun _ hr => XS.iload X21.here hx rfl (hb hby at_160) rfl  hr) ?_
              have hc162 : (0 : Int32) = (0 : Int32) := (by decide)
              refine Runs.by (fun _ hr => XS.ifYes X21.here hx rfl (pc0 := 162) (pc' := 174) rfl (hb hby at_162) rfl ((if0 _ _).trans (teq hc162).1) (by decide) (by decide) hr) ?_
              show Runs p e below _ (T21.setTop (mkF m 174 #[.val (.long q0), .second, .val (.long q1), .second, .val (.int p2), .val (.int p3), .val (.int p4), .val (.long da), .second, .val (.long db), .second, .val (.int (0 : Int32)), .val (.int (0 : Int32)), .val (.ref b1), .val (.int (0 : Int32)), .val (.int s2), .val (.int s3), .val (.int (0 : Int32)), .val (.int (0 : Int32)), .unset, .unset, .unset, .unset, .unset, .unset] []))
              refine Runs.by (fun _ hr => XS.iconst X21.here hx rfl (hb hby at_174) hr) ?_
              refine Runs.by (fun _ hr => XS.istore X21.here hx rfl (hb hby at_175) rfl (l' := #[.val (.long q0), .second, .val (.long q1), .second, .val (.int p2), .val (.int p3), .val (.int p4), .val (.long da), .second, .val (.long db), .second, .val (.int (0 : Int32)), .val (.int (0 : Int32)), .val (.ref b1), .val (.int (0 : Int32)), .val (.int s2), .val (.int s3), .val (.int (0 : Int32)), .val (.int (0 : Int32)), .val (.int (0 : Int32)), .unset, .unset, .unset, .unset, .unset]) rfl hr) ?_
              refine Runs.by (fun _ hr => XS.iload X21.here hx rfl (hb hby at_177) rfl  hr) ?_
              show Runs p e below _ (T21.setTop (mkF m 179 #[.val (.long q0), .second, .val (.long q1), .second, .val (.int p2), .val (.int p3), .val (.int p4), .val (.long da), .second, .val (.long db), .second, .val (.int (0 : Int32)), .val (.int (0 : Int32)), .val (.ref b1), .val (.int (0 : Int32)), .val (.int s2), .val (.int s3), .val (.int (0 : Int32)), .val (.int (0 : Int32)), .val (.int (0 : Int32)), .unset, .unset, .unset, .unset, .unset] [(.int (0 : Int32))]))
              have hc179 : (0 : Int32) = (0 : Int32) := (by decide)
              refine Runs.by (fun _ hr => XS.ifYes X21.here hx rfl (pc0 := 179) (pc' := 248) rfl (hb hby at_179) rfl ((if0 _ _).trans (teq hc179).1) (by decide) (by decide) hr) ?_
              refine Runs.by (fun _ hr => XS.iload X21.here hx rfl (hb hby at_248) rfl  hr) ?_
              have hc250 : (0 : Int32) = (0 : Int32) := (by decide)
              refine Runs.by (fun _ hr => XS.ifYes X21.here hx rfl (pc0 := 250) (pc' := 258) rfl (hb hby at_250) rfl ((if0 _ _).trans (teq hc250).1) (by decide) (by decide) hr) ?_
              show Runs p e below _ (T21.setTop (mkF m 258 #[.val (.long q0), .second, .val (.long q1), .second, .val (.int p2), .val (.int p3), .val (.int p4), .val (.long da), .second, .val (.long db), .second, .val (.int (0 : Int32)), .val (.int (0 : Int32)), .val (.ref b1), .val (.int (0 : Int32)), .val (.int s2), .val (.int s3), .val (.int (0 : Int32)), .val (.int (0 : Int32)), .val (.int (0 : Int32)), .unset, .unset, .unset, .unset, .unset] []))
              refine Runs.by (fun _ hr => XS.iload X21.here hx rfl (hb hby at_258) rfl  hr) ?_
              have hc260 : (0 : Int32) = (0 : Int32) := (by decide)
              refine Runs.by (fun _ hr => XS.ifYes X21.here hx rfl (pc0 := 260) (pc' := 272) rfl (hb hby at_260) rfl ((if0 _ _).trans (teq hc260).1) (by decide) (by decide) hr) ?_
              refine Runs.by (fun _ hr => XS.iconst X21.here hx rfl (hb hby at_272) hr) ?_
              show Runs p e below _ (T21.setTop (mkF m 273 #[.val (.long q0), .second, .val (.long q1), .second, .val (.int p2), .val (.int p3), .val (.int p4), .val (.long da), .second, .val (.long db), .second, .val (.int (0 : Int32)), .val (.int (0 : Int32)), .val (.ref b1), .val (.int (0 : Int32)), .val (.int s2), .val (.int s3), .val (.int (0 : Int32)), .val (.int (0 : Int32)), .val (.int (0 : Int32)), .unset, .unset, .unset, .unset, .unset] [(.int (0 : Int32))]))
              refine Runs.by (fun _ hr => XS.istore X21.here hx rfl (hb hby at_273) rfl (l' := #[.val (.long q0), .second, .val (.long q1), .second, .val (.int p2), .val (.int p3), .val (.int p4), .val (.long da), .second, .val (.long db), .second, .val (.int (0 : Int32)), .val (.int (0 : Int32)), .val (.ref b1), .val (.int (0 : Int32)), .val (.int s2), .val (.int s3), .val (.int (0 : Int32)), .val (.int (0 : Int32)), .val (.int (0 : Int32)), .val (.int (0 : Int32)), .unset, .unset, .unset, .unset]) rfl hr) ?_
              refine Runs.by (fun _ hr => XS.iload X21.here hx rfl (hb hby at_275) rfl  hr) ?_
              have hc277 : (0 : Int32) = (0 : Int32) := (by decide)
              refine Runs.by (fun _ hr => XS.ifNo X21.here hx rfl (hb hby at_277) rfl ((if0 _ _).trans (teq hc277).2) hr) ?_
              show Runs p e below _ (T21.setTop (mkF m 280 #[.val (.long q0), .second, .val (.long q1), .second, .val (.int p2), .val (.int p3), .val (.int p4), .val (.long da), .second, .val (.long db), .second, .val (.int (0 : Int32)), .val (.int (0 : Int32)), .val (.ref b1), .val (.int (0 : Int32)), .val (.int s2), .val (.int s3), .val (.int (0 : Int32)), .val (.int (0 : Int32)), .val (.int (0 : Int32)), .val (.int (0 : Int32)), .unset, .unset, .unset, .unset] []))
              refine Runs.by (fun _ hr => XS.iload X21.here hx rfl (hb hby at_280) rfl  hr) ?_
              refine Runs.by (fun _ hr => XS.iload X21.here hx rfl (hb hby at_282) rfl  hr) ?_
              have hc284 : s2 = (0 : Int32) := (by simp [hs2, zD1])
              refine Runs.by (fun _ hr => XS.icmpNo X21.here hx rfl (hb hby at_284) rfl (teq hc284).2 hr) ?_
              show Runs p e below _ (T21.setTop (mkF m 287 #[.val (.long q0), .second, .val (.long q1), .second, .val (.int p2), .val (.int p3), .val (.int p4), .val (.long da), .second, .val (.long db), .second, .val (.int (0 : Int32)), .val (.int (0 : Int32)), .val (.ref b1), .val (.int (0 : Int32)), .val (.int s2), .val (.int s3), .val (.int (0 : Int32)), .val (.int (0 : Int32)), .val (.int (0 : Int32)), .val (.int (0 : Int32)), .unset, .unset, .unset, .unset] []))
              refine Runs.by (fun _ hr => XS.iload X21.here hx rfl (hb hby at_287) rfl  hr) ?_
              refine Runs.by (fun _ hr => XS.iload X21.here hx rfl (hb hby at_289) rfl  hr) ?_
              have hc291 : s3 = (0 : Int32) := (by simp [hs3, zD1, zD2])
              refine Runs.by (fun _ hr => XS.icmpNo X21.here hx rfl (hb hby at_291) rfl (teq hc291).2 hr) ?_
              show Runs p e below _ (T21.setTop (mkF m 294 #[.val (.long q0), .second, .val (.long q1), .second, .val (.int p2), .val (.int p3), .val (.int p4), .val (.long da), .second, .val (.long db), .second, .val (.int (0 : Int32)), .val (.int (0 : Int32)), .val (.ref b1), .val (.int (0 : Int32)), .val (.int s2), .val (.int s3), .val (.int (0 : Int32)), .val (.int (0 : Int32)), .val (.int (0 : Int32)), .val (.int (0 : Int32)), .unset, .unset, .unset, .unset] []))
              refine Runs.by (fun _ hr => XS.iconst X21.here hx rfl (hb hby at_294) hr) ?_
              refine Runs.by (fun _ hr => XS.goto X21.here hx rfl (pc0 := 295) (pc' := 299) rfl (hb hby at_295) (by decide) (by decide) hr) ?_
              show Runs p e below _ (T21.setTop (mkF m 299 #[.val (.long q0), .second, .val (.long q1), .second, .val (.int p2), .val (.int p3), .val (.int p4), .val (.long da), .second, .val (.long db), .second, .val (.int (0 : Int32)), .val (.int (0 : Int32)), .val (.ref b1), .val (.int (0 : Int32)), .val (.int s2), .val (.int s3), .val (.int (0 : Int32)), .val (.int (0 : Int32)), .val (.int (0 : Int32)), .val (.int (0 : Int32)), .unset, .unset, .unset, .unset] [(.int (1 : Int32))]))
              refine Runs.ret X21 hx hrt hlk (Or.inl ⟨rfl, by simp, _, rfl⟩) (by rfl) (hb hby at_299) (by decide) (by decide) ?_
              exact ⟨rfl, N21⟩
            · -- pc 150: not (lcmpW db (0 : Int64)) = (0 : Int32)
              refine Runs.by (fun _ hr => XS.ifNo X21.here hx rfl (hb hby at_150) rfl ((if0 _ _).trans (feq hc150).1) hr) ?_
              refine Runs.by (fun _ hr => XS.iconst X21.here hx rfl (hb hby at_153) hr) ?_
              show Runs p e below _ (T21.setTop (mkF m 154 #[.val (.long q0), .second, .val (.long q1), .second, .val (.int p2), .val (.int p3), .val (.int p4), .val (.long da), .second, .val (.long db), .second, .val (.int (0 : Int32)), .val (.int (0 : Int32)), .val (.ref b1), .val (.int (0 : Int32)), .val (.int s2), .val (.int s3), .val (.int (0 : Int32)), .unset, .unset, .unset, .unset, .unset, .unset, .unset] [(.int (1 : Int32))]))
              refine Runs.by (fun _ hr => XS.goto X21.here hx rfl (pc0 := 154) (pc' := 158) rfl (hb hby at_154) (by decide) (by decide) hr) ?_
              refine Runs.by (fun _ hr => XS.istore X21.here hx rfl (hb hby at_158) rfl (l' := #[.val (.long q0), .second, .val (.long q1), .second, .val (.int p2), .val (.int p3), .val (.int p4), .val (.long da), .second, .val (.long db), .second, .val (.int (0 : Int32)), .val (.int (0 : Int32)), .val (.ref b1), .val (.int (0 : Int32)), .val (.int s2), .val (.int s3), .val (.int (0 : Int32)), .val (.int (1 : Int32)), .unset, .unset, .unset, .unset, .unset, .unset]) rfl hr) ?_
              have zD2 : own_D q1 db = db := own_Dn (fun z => hc143 (own_lcz.mpr z))
              have nD2 : ¬ db = 0 := fun z => hc150 (own_lcz.mpr z)
              refine Runs.by (fun _ hr => XS.iload X21.here hx rfl (hb hby at_160) rfl  hr) ?_
              show Runs p e below _ (T21.setTop (mkF m 162 #[.val (.long q0), .second, .val (.long q1), .second, .val (.int p2), .val (.int p3), .val (.int p4), .val (.long da), .second, .val (.long db), .second, .val (.int (0 : Int32)), .val (.int (0 : Int32)), .val (.ref b1), .val (.int (0 : Int32)), .val (.int s2), .val (.int s3), .val (.int (0 : Int32)), .val (.int (1 : Int32)), .unset, .unset, .unset, .unset, .unset, .unset] [(.int (0 : Int32))]))
              have hc162 : (0 : Int32) = (0 : Int32) := (by decide)
              refine Runs.by (fun _ hr => XS.ifYes X21.here hx rfl (pc0 := 162) (pc' := 174) rfl (hb hby at_162) rfl ((if0 _ _).trans (teq hc162).1) (by decide) (by decide) hr) ?_
              refine Runs.by (fun _ hr => XS.iconst X21.here hx rfl (hb hby at_174) hr) ?_
              refine Runs.by (fun _ hr => XS.istore X21.here hx rfl (hb hby at_175) rfl (l' := #[.val (.long q0), .second, .val (.long q1), .second, .val (.int p2), .val (.int p3), .val (.int p4), .val (.long da), .second, .val (.long db), .second, .val (.int (0 : Int32)), .val (.int (0 : Int32)), .val (.ref b1), .val (.int (0 : Int32)), .val (.int s2), .val (.int s3), .val (.int (0 : Int32)), .val (.int (1 : Int32)), .val (.int (0 : Int32)), .unset, .unset, .unset, .unset, .unset]) rfl hr) ?_
              show Runs p e below _ (T21.setTop (mkF m 177 #[.val (.long q0), .second, .val (.long q1), .second, .val (.int p2), .val (.int p3), .val (.int p4), .val (.long da), .second, .val (.long db), .second, .val (.int (0 : Int32)), .val (.int (0 : Int32)), .val (.ref b1), .val (.int (0 : Int32)), .val (.int s2), .val (.int s3), .val (.int (0 : Int32)), .val (.int (1 : Int32)), .val (.int (0 : Int32)), .unset, .unset, .unset, .unset, .unset] []))
              refine Runs.by (fun _ hr => XS.iload X21.here hx rfl (hb hby at_177) rfl  hr) ?_
              have hc179 : (0 : Int32) = (0 : Int32) := (by decide)
              refine Runs.by (fun _ hr => XS.ifYes X21.here hx rfl (pc0 := 179) (pc' := 248) rfl (hb hby at_179) rfl ((if0 _ _).trans (teq hc179).1) (by decide) (by decide) hr) ?_
              refine Runs.by (fun _ hr => XS.iload X21.here hx rfl (hb hby at_248) rfl  hr) ?_
              show Runs p e below _ (T21.setTop (mkF m 250 #[.val (.long q0), .second, .val (.long q1), .second, .val (.int p2), .val (.int p3), .val (.int p4), .val (.long da), .second, .val (.long db), .second, .val (.int (0 : Int32)), .val (.int (0 : Int32)), .val (.ref b1), .val (.int (0 : Int32)), .val (.int s2), .val (.int s3), .val (.int (0 : Int32)), .val (.int (1 : Int32)), .val (.int (0 : Int32)), .unset, .unset, .unset, .unset, .unset] [(.int (0 : Int32))]))
              have hc250 : (0 : Int32) = (0 : Int32) := (by decide)
              refine Runs.by (fun _ hr => XS.ifYes X21.here hx rfl (pc0 := 250) (pc' := 258) rfl (hb hby at_250) rfl ((if0 _ _).trans (teq hc250).1) (by decide) (by decide) hr) ?_
              refine Runs.by (fun _ hr => XS.iload X21.here hx rfl (hb hby at_258) rfl  hr) ?_
              have hc260 : ¬ ((1 : Int32) = (0 : Int32)) := (by decide)
              refine Runs.by (fun _ hr => XS.ifNo X21.here hx rfl (hb hby at_260) rfl ((if0 _ _).trans (feq hc260).1) hr) ?_
              show Runs p e below _ (T21.setTop (mkF m 263 #[.val (.long q0), .second, .val (.long q1), .second, .val (.int p2), .val (.int p3), .val (.int p4), .val (.long da), .second, .val (.long db), .second, .val (.int (0 : Int32)), .val (.int (0 : Int32)), .val (.ref b1), .val (.int (0 : Int32)), .val (.int s2), .val (.int s3), .val (.int (0 : Int32)), .val (.int (1 : Int32)), .val (.int (0 : Int32)), .unset, .unset, .unset, .unset, .unset] []))
              refine Runs.by (fun _ hr => XS.iload X21.here hx rfl (hb hby at_263) rfl  hr) ?_
              have hc265 : (0 : Int32) = (0 : Int32) := (by decide)
              refine Runs.by (fun _ hr => XS.ifNo X21.here hx rfl (hb hby at_265) rfl ((if0 _ _).trans (teq hc265).2) hr) ?_
              refine Runs.by (fun _ hr => XS.iconst X21.here hx rfl (hb hby at_268) hr) ?_
              show Runs p e below _ (T21.setTop (mkF m 269 #[.val (.long q0), .second, .val (.long q1), .second, .val (.int p2), .val (.int p3), .val (.int p4), .val (.long da), .second, .val (.long db), .second, .val (.int (0 : Int32)), .val (.int (0 : Int32)), .val (.ref b1), .val (.int (0 : Int32)), .val (.int s2), .val (.int s3), .val (.int (0 : Int32)), .val (.int (1 : Int32)), .val (.int (0 : Int32)), .unset, .unset, .unset, .unset, .unset] [(.int (1 : Int32))]))
              refine Runs.by (fun _ hr => XS.goto X21.here hx rfl (pc0 := 269) (pc' := 273) rfl (hb hby at_269) (by decide) (by decide) hr) ?_
              refine Runs.by (fun _ hr => XS.istore X21.here hx rfl (hb hby at_273) rfl (l' := #[.val (.long q0), .second, .val (.long q1), .second, .val (.int p2), .val (.int p3), .val (.int p4), .val (.long da), .second, .val (.long db), .second, .val (.int (0 : Int32)), .val (.int (0 : Int32)), .val (.ref b1), .val (.int (0 : Int32)), .val (.int s2), .val (.int s3), .val (.int (0 : Int32)), .val (.int (1 : Int32)), .val (.int (0 : Int32)), .val (.int (1 : Int32)), .unset, .unset, .unset, .unset]) rfl hr) ?_
              refine Runs.by (fun _ hr => XS.iload X21.here hx rfl (hb hby at_275) rfl  hr) ?_
              show Runs p e below _ (T21.setTop (mkF m 277 #[.val (.long q0), .second, .val (.long q1), .second, .val (.int p2), .val (.int p3), .val (.int p4), .val (.long da), .second, .val (.long db), .second, .val (.int (0 : Int32)), .val (.int (0 : Int32)), .val (.ref b1), .val (.int (0 : Int32)), .val (.int s2), .val (.int s3), .val (.int (0 : Int32)), .val (.int (1 : Int32)), .val (.int (0 : Int32)), .val (.int (1 : Int32)), .unset, .unset, .unset, .unset] [(.int (0 : Int32))]))
              have hc277 : (0 : Int32) = (0 : Int32) := (by decide)
              refine Runs.by (fun _ hr => XS.ifNo X21.here hx rfl (hb hby at_277) rfl ((if0 _ _).trans (teq hc277).2) hr) ?_
              refine Runs.by (fun _ hr => XS.iload X21.here hx rfl (hb hby at_280) rfl  hr) ?_
              refine Runs.by (fun _ hr => XS.iload X21.here hx rfl (hb hby at_282) rfl  hr) ?_
              show Runs p e below _ (T21.setTop (mkF m 284 #[.val (.long q0), .second, .val (.long q1), .second, .val (.int p2), .val (.int p3), .val (.int p4), .val (.long da), .second, .val (.long db), .second, .val (.int (0 : Int32)), .val (.int (0 : Int32)), .val (.ref b1), .val (.int (0 : Int32)), .val (.int s2), .val (.int s3), .val (.int (0 : Int32)), .val (.int (1 : Int32)), .val (.int (0 : Int32)), .val (.int (1 : Int32)), .unset, .unset, .unset, .unset] [(.int (0 : Int32)), (.int s2)]))
              have hc284 : s2 = (0 : Int32) := (by simp [hs2, zD1])
              refine Runs.by (fun _ hr => XS.icmpNo X21.here hx rfl (hb hby at_284) rfl (teq hc284).2 hr) ?_
              refine Runs.by (fun _ hr => XS.iload X21.here hx rfl (hb hby at_287) rfl  hr) ?_
              refine Runs.by (fun _ hr => XS.iload X21.here hx rfl (hb hby at_289) rfl  hr) ?_
              show Runs p e below _ (T21.setTop (mkF m 291 #[.val (.long q0), .second, .val (.long q1), .second, .val (.int p2), .val (.int p3), .val (.int p4), .val (.long da), .second, .val (.long db), .second, .val (.int (0 : Int32)), .val (.int (0 : Int32)), .val (.ref b1), .val (.int (0 : Int32)), .val (.int s2), .val (.int s3), .val (.int (0 : Int32)), .val (.int (1 : Int32)), .val (.int (0 : Int32)), .val (.int (1 : Int32)), .unset, .unset, .unset, .unset] [(.int (1 : Int32)), (.int s3)]))
              have hc291 : s3 = (1 : Int32) := (by simp [hs3, zD1, zD2, nD2])
              refine Runs.by (fun _ hr => XS.icmpNo X21.here hx rfl (hb hby at_291) rfl (teq hc291).2 hr) ?_
              refine Runs.by (fun _ hr => XS.iconst X21.here hx rfl (hb hby at_294) hr) ?_
              refine Runs.by (fun _ hr => XS.goto X21.here hx rfl (pc0 := 295) (pc' := 299) rfl (hb hby at_295) (by decide) (by decide) hr) ?_
              show Runs p e below _ (T21.setTop (mkF m 299 #[.val (.long q0), .second, .val (.long q1), .second, .val (.int p2), .val (.int p3), .val (.int p4), .val (.long da), .second, .val (.long db), .second, .val (.int (0 : Int32)), .val (.int (0 : Int32)), .val (.ref b1), .val (.int (0 : Int32)), .val (.int s2), .val (.int s3), .val (.int (0 : Int32)), .val (.int (1 : Int32)), .val (.int (0 : Int32)), .val (.int (1 : Int32)), .unset, .unset, .unset, .unset] [(.int (1 : Int32))]))
              refine Runs.ret X21 hx hrt hlk (Or.inl ⟨rfl, by simp, _, rfl⟩) (by rfl) (hb hby at_299) (by decide) (by decide) ?_
              exact ⟨rfl, N21⟩
        · -- pc 130: not (lcmpW da (0 : Int64)) = (0 : Int32)
          refine Runs.by (fun _ hr => XS.ifNo X21.here hx rfl (hb hby at_130) rfl ((if0 _ _).trans (feq hc130).1) hr) ?_
          refine Runs.by (fun _ hr => XS.iconst X21.here hx rfl (hb hby at_133) hr) ?_
          refine Runs.by (fun _ hr => XS.goto X21.here hx rfl (pc0 := 134) (pc' := 138) rfl (hb hby at_134) (by decide) (by decide) hr) ?_
          show Runs p e below _ (T21.setTop (mkF m 138 #[.val (.long q0), .second, .val (.long q1), .second, .val (.int p2), .val (.int p3), .val (.int p4), .val (.long da), .second, .val (.long db), .second, .val (.int (0 : Int32)), .val (.int (0 : Int32)), .val (.ref b1), .val (.int (0 : Int32)), .val (.int s2), .val (.int s3), .unset, .unset, .unset, .unset, .unset, .unset, .unset, .unset] [(.int (1 : Int32))]))
          refine Runs.by (fun _ hr => XS.istore X21.here hx rfl (hb hby at_138) rfl (l' := #[.val (.long q0), .second, .val (.long q1), .second, .val (.int p2), .val (.int p3), .val (.int p4), .val (.long da), .second, .val (.long db), .second, .val (.int (0 : Int32)), .val (.int (0 : Int32)), .val (.ref b1), .val (.int (0 : Int32)), .val (.int s2), .val (.int s3), .val (.int (1 : Int32)), .unset, .unset, .unset, .unset, .unset, .unset, .unset]) rfl hr) ?_
          have zD1 : own_D q0 da = da := own_Dn (fun z => hc123 (own_lcz.mpr z))
          have nD1 : ¬ da = 0 := fun z => hc130 (own_lcz.mpr z)
          refine Runs.by (fun _ hr => XS.lloadN X21.here hx rfl (hb hby at_140) rfl  hr) ?_
          refine Runs.by (fun _ hr => XS.lconst X21.here hx rfl (hb hby at_141) hr) ?_
          show Runs p e below _ (T21.setTop (mkF m 142 #[.val (.long q0), .second, .val (.long q1), .second, .val (.int p2), .val (.int p3), .val (.int p4), .val (.long da), .second, .val (.long db), .second, .val (.int (0 : Int32)), .val (.int (0 : Int32)), .val (.ref b1), .val (.int (0 : Int32)), .val (.int s2), .val (.int s3), .val (.int (1 : Int32)), .unset, .unset, .unset, .unset, .unset, .unset, .unset] [(.long (0 : Int64)), (.long q1)]))
          refine Runs.by (fun _ hr => XS.lcmp X21.here hx rfl (hb hby at_142) rfl hr) ?_
          by_cases hc143 : (lcmpW q1 (0 : Int64)) = (0 : Int32)
          · -- pc 143: (lcmpW q1 (0 : Int64)) = (0 : Int32)
            refine Runs.by (fun _ hr => XS.ifYes X21.here hx rfl (pc0 := 143) (pc' := 157) rfl (hb hby at_143) rfl ((if0 _ _).trans (teq hc143).1) (by decide) (by decide) hr) ?_
            refine Runs.by (fun _ hr => XS.iconst X21.here hx rfl (hb hby at_157) hr) ?_
            show Runs p e below _ (T21.setTop (mkF m 158 #[.val (.long q0), .second, .val (.long q1), .second, .val (.int p2), .val (.int p3), .val (.int p4), .val (.long da), .second, .val (.long db), .second, .val (.int (0 : Int32)), .val (.int (0 : Int32)), .val (.ref b1), .val (.int (0 : Int32)), .val (.int s2), .val (.int s3), .val (.int (1 : Int32)), .unset, .unset, .unset, .unset, .unset, .unset, .unset] [(.int (0 : Int32))]))
            refine Runs.by (fun _ hr => XS.istore X21.here hx rfl (hb hby at_158) rfl (l' := #[.val (.long q0), .second, .val (.long q1), .second, .val (.int p2), .val (.int p3), .val (.int p4), .val (.long da), .second, .val (.long db), .second, .val (.int (0 : Int32)), .val (.int (0 : Int32)), .val (.ref b1), .val (.int (0 : Int32)), .val (.int s2), .val (.int s3), .val (.int (1 : Int32)), .val (.int (0 : Int32)), .unset, .unset, .unset, .unset, .unset, .unset]) rfl hr) ?_
            have zD2 : own_D q1 db = 0 := own_Dz1 (own_lcz.mp hc143)
            refine Runs.by (fun _ hr => XS.iload X21.here hx rfl (hb hby at_160) rfl  hr) ?_
            have hc162 : ¬ ((1 : Int32) = (0 : Int32)) := (by decide)
            refine Runs.by (fun _ hr => XS.ifNo X21.here hx rfl (hb hby at_162) rfl ((if0 _ _).trans (feq hc162).1) hr) ?_
            show Runs p e below _ (T21.setTop (mkF m 165 #[.val (.long q0), .second, .val (.long q1), .second, .val (.int p2), .val (.int p3), .val (.int p4), .val (.long da), .second, .val (.long db), .second, .val (.int (0 : Int32)), .val (.int (0 : Int32)), .val (.ref b1), .val (.int (0 : Int32)), .val (.int s2), .val (.int s3), .val (.int (1 : Int32)), .val (.int (0 : Int32)), .unset, .unset, .unset, .unset, .unset, .unset] []))
            refine Runs.by (fun _ hr => XS.iload X21.here hx rfl (hb hby at_165) rfl  hr) ?_
            have hc167 : (0 : Int32) = (0 : Int32) := (by decide)
            refine Runs.by (fun _ hr => XS.ifNo X21.here hx rfl (hb hby at_167) rfl ((if0 _ _).trans (teq hc167).2) hr) ?_
            refine Runs.by (fun _ hr => XS.iconst X21.here hx rfl (hb hby at_170) hr) ?_
            show Runs p e below _ (T21.setTop (mkF m 171 #[.val (.long q0), .second, .val (.long q1), .second, .val (.int p2), .val (.int p3), .val (.int p4), .val (.long da), .second, .val (.long db), .second, .val (.int (0 : Int32)), .val (.int (0 : Int32)), .val (.ref b1), .val (.int (0 : Int32)), .val (.int s2), .val (.int s3), .val (.int (1 : Int32)), .val (.int (0 : Int32)), .unset, .unset, .unset, .unset, .unset, .unset] [(.int (1 : Int32))]))
            refine Runs.by (fun _ hr => XS.goto X21.here hx rfl (pc0 := 171) (pc' := 175) rfl (hb hby at_171) (by decide) (by decide) hr) ?_
            refine Runs.by (fun _ hr => XS.istore X21.here hx rfl (hb hby at_175) rfl (l' := #[.val (.long q0), .second, .val (.long q1), .second, .val (.int p2), .val (.int p3), .val (.int p4), .val (.long da), .second, .val (.long db), .second, .val (.int (0 : Int32)), .val (.int (0 : Int32)), .val (.ref b1), .val (.int (0 : Int32)), .val (.int s2), .val (.int s3), .val (.int (1 : Int32)), .val (.int (0 : Int32)), .val (.int (1 : Int32)), .unset, .unset, .unset, .unset, .unset]) rfl hr) ?_
            refine Runs.by (fun _ hr => XS.iload X21.here hx rfl (hb hby at_177) rfl  hr) ?_
            show Runs p e below _ (T21.setTop (mkF m 179 #[.val (.long q0), .second, .val (.long q1), .second, .val (.int p2), .val (.int p3), .val (.int p4), .val (.long da), .second, .val (.long db), .second, .val (.int (0 : Int32)), .val (.int (0 : Int32)), .val (.ref b1), .val (.int (0 : Int32)), .val (.int s2), .val (.int s3), .val (.int (1 : Int32)), .val (.int (0 : Int32)), .val (.int (1 : Int32)), .unset, .unset, .unset, .unset, .unset] [(.int (1 : Int32))]))
            have hc179 : ¬ ((1 : Int32) = (0 : Int32)) := (by decide)
            refine Runs.by (fun _ hr => XS.ifNo X21.here hx rfl (hb hby at_179) rfl ((if0 _ _).trans (feq hc179).1) hr) ?_
            refine Runs.by (fun _ hr => XS.iload X21.here hx rfl (hb hby at_182) rfl  hr) ?_
            have hc184 : (0 : Int32) = (0 : Int32) := (by decide)
            refine Runs.by (fun _ hr => XS.ifYes X21.here hx rfl (pc0 := 184) (pc' := 248) rfl (hb hby at_184) rfl ((if0 _ _).trans (teq hc184).1) (by decide) (by decide) hr) ?_
            show Runs p e below _ (T21.setTop (mkF m 248 #[.val (.long q0), .second, .val (.long q1), .second, .val (.int p2), .val (.int p3), .val (.int p4), .val (.long da), .second, .val (.long db), .second, .val (.int (0 : Int32)), .val (.int (0 : Int32)), .val (.ref b1), .val (.int (0 : Int32)), .val (.int s2), .val (.int s3), .val (.int (1 : Int32)), .val (.int (0 : Int32)), .val (.int (1 : Int32)), .unset, .unset, .unset, .unset, .unset] []))
            refine Runs.by (fun _ hr => XS.iload X21.here hx rfl (hb hby at_248) rfl  hr) ?_
            have hc250 : ¬ ((1 : Int32) = (0 : Int32)) := (by decide)
            refine Runs.by (fun _ hr => XS.ifNo X21.here hx rfl (hb hby at_250) rfl ((if0 _ _).trans (feq hc250).1) hr) ?_
            refine Runs.by (fun _ hr => XS.iload X21.here hx rfl (hb hby at_253) rfl  hr) ?_
            show Runs p e below _ (T21.setTop (mkF m 255 #[.val (.long q0), .second, .val (.long q1), .second, .val (.int p2), .val (.int p3), .val (.int p4), .val (.long da), .second, .val (.long db), .second, .val (.int (0 : Int32)), .val (.int (0 : Int32)), .val (.ref b1), .val (.int (0 : Int32)), .val (.int s2), .val (.int s3), .val (.int (1 : Int32)), .val (.int (0 : Int32)), .val (.int (1 : Int32)), .unset, .unset, .unset, .unset, .unset] [(.int (0 : Int32))]))
            have hc255 : (0 : Int32) = (0 : Int32) := (by decide)
            refine Runs.by (fun _ hr => XS.ifYes X21.here hx rfl (pc0 := 255) (pc' := 268) rfl (hb hby at_255) rfl ((if0 _ _).trans (teq hc255).1) (by decide) (by decide) hr) ?_
            refine Runs.by (fun _ hr => XS.iconst X21.here hx rfl (hb hby at_268) hr) ?_
            refine Runs.by (fun _ hr => XS.goto X21.here hx rfl (pc0 := 269) (pc' := 273) rfl (hb hby at_269) (by decide) (by decide) hr) ?_
            show Runs p e below _ (T21.setTop (mkF m 273 #[.val (.long q0), .second, .val (.long q1), .second, .val (.int p2), .val (.int p3), .val (.int p4), .val (.long da), .second, .val (.long db), .second, .val (.int (0 : Int32)), .val (.int (0 : Int32)), .val (.ref b1), .val (.int (0 : Int32)), .val (.int s2), .val (.int s3), .val (.int (1 : Int32)), .val (.int (0 : Int32)), .val (.int (1 : Int32)), .unset, .unset, .unset, .unset, .unset] [(.int (1 : Int32))]))
            refine Runs.by (fun _ hr => XS.istore X21.here hx rfl (hb hby at_273) rfl (l' := #[.val (.long q0), .second, .val (.long q1), .second, .val (.int p2), .val (.int p3), .val (.int p4), .val (.long da), .second, .val (.long db), .second, .val (.int (0 : Int32)), .val (.int (0 : Int32)), .val (.ref b1), .val (.int (0 : Int32)), .val (.int s2), .val (.int s3), .val (.int (1 : Int32)), .val (.int (0 : Int32)), .val (.int (1 : Int32)), .val (.int (1 : Int32)), .unset, .unset, .unset, .unset]) rfl hr) ?_
            refine Runs.by (fun _ hr => XS.iload X21.here hx rfl (hb hby at_275) rfl  hr) ?_
            have hc277 : (0 : Int32) = (0 : Int32) := (by decide)
            refine Runs.by (fun _ hr => XS.ifNo X21.here hx rfl (hb hby at_277) rfl ((if0 _ _).trans (teq hc277).2) hr) ?_
            show Runs p e below _ (T21.setTop (mkF m 280 #[.val (.long q0), .second, .val (.long q1), .second, .val (.int p2), .val (.int p3), .val (.int p4), .val (.long da), .second, .val (.long db), .second, .val (.int (0 : Int32)), .val (.int (0 : Int32)), .val (.ref b1), .val (.int (0 : Int32)), .val (.int s2), .val (.int s3), .val (.int (1 : Int32)), .val (.int (0 : Int32)), .val (.int (1 : Int32)), .val (.int (1 : Int32)), .unset, .unset, .unset, .unset] []))
            refine Runs.by (fun _ hr => XS.iload X21.here hx rfl (hb hby at_280) rfl  hr) ?_
            refine Runs.by (fun _ hr => XS.iload X21.here hx rfl (hb hby at_282) rfl  hr) ?_
            have hc284 : s2 = (1 : Int32) := (by simp [hs2, zD1, nD1])
            refine Runs.by (fun _ hr => XS.icmpNo X21.here hx rfl (hb hby at_284) rfl (teq hc284).2 hr) ?_
            show Runs p e below _ (T21.setTop (mkF m 287 #[.val (.long q0), .second, .val (.long q1), .second, .val (.int p2), .val (.int p3), .val (.int p4), .val (.long da), .second, .val (.long db), .second, .val (.int (0 : Int32)), .val (.int (0 : Int32)), .val (.ref b1), .val (.int (0 : Int32)), .val (.int s2), .val (.int s3), .val (.int (1 : Int32)), .val (.int (0 : Int32)), .val (.int (1 : Int32)), .val (.int (1 : Int32)), .unset, .unset, .unset, .unset] []))
            refine Runs.by (fun _ hr => XS.iload X21.here hx rfl (hb hby at_287) rfl  hr) ?_
            refine Runs.by (fun _ hr => XS.iload X21.here hx rfl (hb hby at_289) rfl  hr) ?_
            have hc291 : s3 = (1 : Int32) := (by simp [hs3, zD1, zD2, nD1])
            refine Runs.by (fun _ hr => XS.icmpNo X21.here hx rfl (hb hby at_291) rfl (teq hc291).2 hr) ?_
            show Runs p e below _ (T21.setTop (mkF m 294 #[.val (.long q0), .second, .val (.long q1), .second, .val (.int p2), .val (.int p3), .val (.int p4), .val (.long da), .second, .val (.long db), .second, .val (.int (0 : Int32)), .val (.int (0 : Int32)), .val (.ref b1), .val (.int (0 : Int32)), .val (.int s2), .val (.int s3), .val (.int (1 : Int32)), .val (.int (0 : Int32)), .val (.int (1 : Int32)), .val (.int (1 : Int32)), .unset, .unset, .unset, .unset] []))
            refine Runs.by (fun _ hr => XS.iconst X21.here hx rfl (hb hby at_294) hr) ?_
            refine Runs.by (fun _ hr => XS.goto X21.here hx rfl (pc0 := 295) (pc' := 299) rfl (hb hby at_295) (by decide) (by decide) hr) ?_
            show Runs p e below _ (T21.setTop (mkF m 299 #[.val (.long q0), .second, .val (.long q1), .second, .val (.int p2), .val (.int p3), .val (.int p4), .val (.long da), .second, .val (.long db), .second, .val (.int (0 : Int32)), .val (.int (0 : Int32)), .val (.ref b1), .val (.int (0 : Int32)), .val (.int s2), .val (.int s3), .val (.int (1 : Int32)), .val (.int (0 : Int32)), .val (.int (1 : Int32)), .val (.int (1 : Int32)), .unset, .unset, .unset, .unset] [(.int (1 : Int32))]))
            refine Runs.ret X21 hx hrt hlk (Or.inl ⟨rfl, by simp, _, rfl⟩) (by rfl) (hb hby at_299) (by decide) (by decide) ?_
            exact ⟨rfl, N21⟩
          · -- pc 143: not (lcmpW q1 (0 : Int64)) = (0 : Int32)
            refine Runs.by (fun _ hr => XS.ifNo X21.here hx rfl (hb hby at_143) rfl ((if0 _ _).trans (feq hc143).1) hr) ?_
            refine Runs.by (fun _ hr => XS.lload X21.here hx rfl (hb hby at_146) rfl  hr) ?_
            show Runs p e below _ (T21.setTop (mkF m 148 #[.val (.long q0), .second, .val (.long q1), .second, .val (.int p2), .val (.int p3), .val (.int p4), .val (.long da), .second, .val (.long db), .second, .val (.int (0 : Int32)), .val (.int (0 : Int32)), .val (.ref b1), .val (.int (0 : Int32)), .val (.int s2), .val (.int s3), .val (.int (1 : Int32)), .unset, .unset, .unset, .unset, .unset, .unset, .unset] [(.long db)]))
            refine Runs.by (fun _ hr => XS.lconst X21.here hx rfl (hb hby at_148) hr) ?_
            refine Runs.by (fun _ hr => XS.lcmp X21.here hx rfl (hb hby at_149) rfl hr) ?_
            by_cases hc150 : (lcmpW db (0 : Int64)) = (0 : Int32)
            · -- pc 150: (lcmpW db (0 : Int64)) = (0 : Int32)
              refine Runs.by (fun _ hr => XS.ifYes X21.here hx rfl (pc0 := 150) (pc' := 157) rfl (hb hby at_150) rfl ((if0 _ _).trans (teq hc150).1) (by decide) (by decide) hr) ?_
              show Runs p e below _ (T21.setTop (mkF m 157 #[.val (.long q0), .second, .val (.long q1), .second, .val (.int p2), .val (.int p3), .val (.int p4), .val (.long da), .second, .val (.long db), .second, .val (.int (0 : Int32)), .val (.int (0 : Int32)), .val (.ref b1), .val (.int (0 : Int32)), .val (.int s2), .val (.int s3), .val (.int (1 : Int32)), .unset, .unset, .unset, .unset, .unset, .unset, .unset] []))
              refine Runs.by (fun _ hr => XS.iconst X21.here hx rfl (hb hby at_157) hr) ?_
              refine Runs.by (fun _ hr => XS.istore X21.here hx rfl (hb hby at_158) rfl (l' := #[.val (.long q0), .second, .val (.long q1), .second, .val (.int p2), .val (.int p3), .val (.int p4), .val (.long da), .second, .val (.long db), .second, .val (.int (0 : Int32)), .val (.int (0 : Int32)), .val (.ref b1), .val (.int (0 : Int32)), .val (.int s2), .val (.int s3), .val (.int (1 : Int32)), .val (.int (0 : Int32)), .unset, .unset, .unset, .unset, .unset, .unset]) rfl hr) ?_
              have zD2 : own_D q1 db = 0 := own_Dz2 (own_lcz.mp hc150)
              refine Runs.by (fun _ hr => XS.iload X21.here hx rfl (hb hby at_160) rfl  hr) ?_
              show Runs p e below _ (T21.setTop (mkF m 162 #[.val (.long q0), .second, .val (.long q1), .second, .val (.int p2), .val (.int p3), .val (.int p4), .val (.long da), .second, .val (.long db), .second, .val (.int (0 : Int32)), .val (.int (0 : Int32)), .val (.ref b1), .val (.int (0 : Int32)), .val (.int s2), .val (.int s3), .val (.int (1 : Int32)), .val (.int (0 : Int32)), .unset, .unset, .unset, .unset, .unset, .unset] [(.int (1 : Int32))]))
              have hc162 : ¬ ((1 : Int32) = (0 : Int32)) := (by decide)
              refine Runs.by (fun _ hr => XS.ifNo X21.here hx rfl (hb hby at_162) rfl ((if0 _ _).trans (feq hc162).1) hr) ?_
              refine Runs.by (fun _ hr => XS.iload X21.here hx rfl (hb hby at_165) rfl  hr) ?_
              have hc167 : (0 : Int32) = (0 : Int32) := (by decide)
              refine Runs.by (fun _ hr => XS.ifNo X21.here hx rfl (hb hby at_167) rfl ((if0 _ _).trans (teq hc167).2) hr) ?_
              show Runs p e below _ (T21.setTop (mkF m 170 #[.val (.long q0), .second, .val (.long q1), .second, .val (.int p2), .val (.int p3), .val (.int p4), .val (.long da), .second, .val (.long db), .second, .val (.int (0 : Int32)), .val (.int (0 : Int32)), .val (.ref b1), .val (.int (0 : Int32)), .val (.int s2), .val (.int s3), .val (.int (1 : Int32)), .val (.int (0 : Int32)), .unset, .unset, .unset, .unset, .unset, .unset] []))
              refine Runs.by (fun _ hr => XS.iconst X21.here hx rfl (hb hby at_170) hr) ?_
              refine Runs.by (fun _ hr => XS.goto X21.here hx rfl (pc0 := 171) (pc' := 175) rfl (hb hby at_171) (by decide) (by decide) hr) ?_
              refine Runs.by (fun _ hr => XS.istore X21.here hx rfl (hb hby at_175) rfl (l' := #[.val (.long q0), .second, .val (.long q1), .second, .val (.int p2), .val (.int p3), .val (.int p4), .val (.long da), .second, .val (.long db), .second, .val (.int (0 : Int32)), .val (.int (0 : Int32)), .val (.ref b1), .val (.int (0 : Int32)), .val (.int s2), .val (.int s3), .val (.int (1 : Int32)), .val (.int (0 : Int32)), .val (.int (1 : Int32)), .unset, .unset, .unset, .unset, .unset]) rfl hr) ?_
              show Runs p e below _ (T21.setTop (mkF m 177 #[.val (.long q0), .second, .val (.long q1), .second, .val (.int p2), .val (.int p3), .val (.int p4), .val (.long da), .second, .val (.long db), .second, .val (.int (0 : Int32)), .val (.int (0 : Int32)), .val (.ref b1), .val (.int (0 : Int32)), .val (.int s2), .val (.int s3), .val (.int (1 : Int32)), .val (.int (0 : Int32)), .val (.int (1 : Int32)), .unset, .unset, .unset, .unset, .unset] []))
              refine Runs.by (fun _ hr => XS.iload X21.here hx rfl (hb hby at_177) rfl  hr) ?_
              have hc179 : ¬ ((1 : Int32) = (0 : Int32)) := (by decide)
              refine Runs.by (fun _ hr => XS.ifNo X21.here hx rfl (hb hby at_179) rfl ((if0 _ _).trans (feq hc179).1) hr) ?_
              refine Runs.by (fun _ hr => XS.iload X21.here hx rfl (hb hby at_182) rfl  hr) ?_
              show Runs p e below _ (T21.setTop (mkF m 184 #[.val (.long q0), .second, .val (.long q1), .second, .val (.int p2), .val (.int p3), .val (.int p4), .val (.long da), .second, .val (.long db), .second, .val (.int (0 : Int32)), .val (.int (0 : Int32)), .val (.ref b1), .val (.int (0 : Int32)), .val (.int s2), .val (.int s3), .val (.int (1 : Int32)), .val (.int (0 : Int32)), .val (.int (1 : Int32)), .unset, .unset, .unset, .unset, .unset] [(.int (0 : Int32))]))
              have hc184 : (0 : Int32) = (0 : Int32) := (by decide)
              refine Runs.by (fun _ hr => XS.ifYes X21.here hx rfl (pc0 := 184) (pc' := 248) rfl (hb hby at_184) rfl ((if0 _ _).trans (teq hc184).1) (by decide) (by decide) hr) ?_
              refine Runs.by (fun _ hr => XS.iload X21.here hx rfl (hb hby at_248) rfl  hr) ?_
              have hc250 : ¬ ((1 : Int32) = (0 : Int32)) := (by decide)
              refine Runs.by (fun _ hr => XS.ifNo X21.here hx rfl (hb hby at_250) rfl ((if0 _ _).trans (feq hc250).1) hr) ?_
              show Runs p e below _ (T21.setTop (mkF m 253 #[.val (.long q0), .second, .val (.long q1), .second, .val (.int p2), .val (.int p3), .val (.int p4), .val (.long da), .second, .val (.long db), .second, .val (.int (0 : Int32)), .val (.int (0 : Int32)), .val (.ref b1), .val (.int (0 : Int32)), .val (.int s2), .val (.int s3), .val (.int (1 : Int32)), .val (.int (0 : Int32)), .val (.int (1 : Int32)), .unset, .unset, .unset, .unset, .unset] []))
              refine Runs.by (fun _ hr => XS.iload X21.here hx rfl (hb hby at_253) rfl  hr) ?_
              have hc255 : (0 : Int32) = (0 : Int32) := (by decide)
              refine Runs.by (fun _ hr => XS.ifYes X21.here hx rfl (pc0 := 255) (pc' := 268) rfl (hb hby at_255) rfl ((if0 _ _).trans (teq hc255).1) (by decide) (by decide) hr) ?_
              refine Runs.by (fun _ hr => XS.iconst X21.here hx rfl (hb hby at_268) hr) ?_
              show Runs p e below _ (T21.setTop (mkF m 269 #[.val (.long q0), .second, .val (.long q1), .second, .val (.int p2), .val (.int p3), .val (.int p4), .val (.long da), .second, .val (.long db), .second, .val (.int (0 : Int32)), .val (.int (0 : Int32)), .val (.ref b1), .val (.int (0 : Int32)), .val (.int s2), .val (.int s3), .val (.int (1 : Int32)), .val (.int (0 : Int32)), .val (.int (1 : Int32)), .unset, .unset, .unset, .unset, .unset] [(.int (1 : Int32))]))
              refine Runs.by (fun _ hr => XS.goto X21.here hx rfl (pc0 := 269) (pc' := 273) rfl (hb hby at_269) (by decide) (by decide) hr) ?_
              refine Runs.by (fun _ hr => XS.istore X21.here hx rfl (hb hby at_273) rfl (l' := #[.val (.long q0), .second, .val (.long q1), .second, .val (.int p2), .val (.int p3), .val (.int p4), .val (.long da), .second, .val (.long db), .second, .val (.int (0 : Int32)), .val (.int (0 : Int32)), .val (.ref b1), .val (.int (0 : Int32)), .val (.int s2), .val (.int s3), .val (.int (1 : Int32)), .val (.int (0 : Int32)), .val (.int (1 : Int32)), .val (.int (1 : Int32)), .unset, .unset, .unset, .unset]) rfl hr) ?_
              refine Runs.by (fun _ hr => XS.iload X21.here hx rfl (hb hby at_275) rfl  hr) ?_
              show Runs p e below _ (T21.setTop (mkF m 277 #[.val (.long q0), .second, .val (.long q1), .second, .val (.int p2), .val (.int p3), .val (.int p4), .val (.long da), .second, .val (.long db), .second, .val (.int (0 : Int32)), .val (.int (0 : Int32)), .val (.ref b1), .val (.int (0 : Int32)), .val (.int s2), .val (.int s3), .val (.int (1 : Int32)), .val (.int (0 : Int32)), .val (.int (1 : Int32)), .val (.int (1 : Int32)), .unset, .unset, .unset, .unset] [(.int (0 : Int32))]))
              have hc277 : (0 : Int32) = (0 : Int32) := (by decide)
              refine Runs.by (fun _ hr => XS.ifNo X21.here hx rfl (hb hby at_277) rfl ((if0 _ _).trans (teq hc277).2) hr) ?_
              refine Runs.by (fun _ hr => XS.iload X21.here hx rfl (hb hby at_280) rfl  hr) ?_
              refine Runs.by (fun _ hr => XS.iload X21.here hx rfl (hb hby at_282) rfl  hr) ?_
              show Runs p e below _ (T21.setTop (mkF m 284 #[.val (.long q0), .second, .val (.long q1), .second, .val (.int p2), .val (.int p3), .val (.int p4), .val (.long da), .second, .val (.long db), .second, .val (.int (0 : Int32)), .val (.int (0 : Int32)), .val (.ref b1), .val (.int (0 : Int32)), .val (.int s2), .val (.int s3), .val (.int (1 : Int32)), .val (.int (0 : Int32)), .val (.int (1 : Int32)), .val (.int (1 : Int32)), .unset, .unset, .unset, .unset] [(.int (1 : Int32)), (.int s2)]))
              have hc284 : s2 = (1 : Int32) := (by simp [hs2, zD1, nD1])
              refine Runs.by (fun _ hr => XS.icmpNo X21.here hx rfl (hb hby at_284) rfl (teq hc284).2 hr) ?_
              refine Runs.by (fun _ hr => XS.iload X21.here hx rfl (hb hby at_287) rfl  hr) ?_
              refine Runs.by (fun _ hr => XS.iload X21.here hx rfl (hb hby at_289) rfl  hr) ?_
              show Runs p e below _ (T21.setTop (mkF m 291 #[.val (.long q0), .second, .val (.long q1), .second, .val (.int p2), .val (.int p3), .val (.int p4), .val (.long da), .second, .val (.long db), .second, .val (.int (0 : Int32)), .val (.int (0 : Int32)), .val (.ref b1), .val (.int (0 : Int32)), .val (.int s2), .val (.int s3), .val (.int (1 : Int32)), .val (.int (0 : Int32)), .val (.int (1 : Int32)), .val (.int (1 : Int32)), .unset, .unset, .unset, .unset] [(.int (1 : Int32)), (.int s3)]))
              have hc291 : s3 = (1 : Int32) := (by simp [hs3, zD1, zD2, nD1])
              refine Runs.by (fun _ hr => XS.icmpNo X21.here hx rfl (hb hby at_291) rfl (teq hc291).2 hr) ?_
              refine Runs.by (fun _ hr => XS.iconst X21.here hx rfl (hb hby at_294) hr) ?_
              refine Runs.by (fun _ hr => XS.goto X21.here hx rfl (pc0 := 295) (pc' := 299) rfl (hb hby at_295) (by decide) (by decide) hr) ?_
              show Runs p e below _ (T21.setTop (mkF m 299 #[.val (.long q0), .second, .val (.long q1), .second, .val (.int p2), .val (.int p3), .val (.int p4), .val (.long da), .second, .val (.long db), .second, .val (.int (0 : Int32)), .val (.int (0 : Int32)), .val (.ref b1), .val (.int (0 : Int32)), .val (.int s2), .val (.int s3), .val (.int (1 : Int32)), .val (.int (0 : Int32)), .val (.int (1 : Int32)), .val (.int (1 : Int32)), .unset, .unset, .unset, .unset] [(.int (1 : Int32))]))
              refine Runs.ret X21 hx hrt hlk (Or.inl ⟨rfl, by simp, _, rfl⟩) (by rfl) (hb hby at_299) (by decide) (by decide) ?_
              exact ⟨rfl, N21⟩
            · -- pc 150: not (lcmpW db (0 : Int64)) = (0 : Int32)
              refine Runs.by (fun _ hr => XS.ifNo X21.here hx rfl (hb hby at_150) rfl ((if0 _ _).trans (feq hc150).1) hr) ?_
              show Runs p e below _ (T21.setTop (mkF m 153 #[.val (.long q0), .second, .val (.long q1), .second, .val (.int p2), .val (.int p3), .val (.int p4), .val (.long da), .second, .val (.long db), .second, .val (.int (0 : Int32)), .val (.int (0 : Int32)), .val (.ref b1), .val (.int (0 : Int32)), .val (.int s2), .val (.int s3), .val (.int (1 : Int32)), .unset, .unset, .unset, .unset, .unset, .unset, .unset] []))
              refine Runs.by (fun _ hr => XS.iconst X21.here hx rfl (hb hby at_153) hr) ?_
              refine Runs.by (fun _ hr => XS.goto X21.here hx rfl (pc0 := 154) (pc' := 158) rfl (hb hby at_154) (by decide) (by decide) hr) ?_
              refine Runs.by (fun _ hr => XS.istore X21.here hx rfl (hb hby at_158) rfl (l' := #[.val (.long q0), .second, .val (.long q1), .second, .val (.int p2), .val (.int p3), .val (.int p4), .val (.long da), .second, .val (.long db), .second, .val (.int (0 : Int32)), .val (.int (0 : Int32)), .val (.ref b1), .val (.int (0 : Int32)), .val (.int s2), .val (.int s3), .val (.int (1 : Int32)), .val (.int (1 : Int32)), .unset, .unset, .unset, .unset, .unset, .unset]) rfl hr) ?_
              have zD2 : own_D q1 db = db := own_Dn (fun z => hc143 (own_lcz.mpr z))
              have nD2 : ¬ db = 0 := fun z => hc150 (own_lcz.mpr z)
              show Runs p e below _ (T21.setTop (mkF m 160 #[.val (.long q0), .second, .val (.long q1), .second, .val (.int p2), .val (.int p3), .val (.int p4), .val (.long da), .second, .val (.long db), .second, .val (.int (0 : Int32)), .val (.int (0 : Int32)), .val (.ref b1), .val (.int (0 : Int32)), .val (.int s2), .val (.int s3), .val (.int (1 : Int32)), .val (.int (1 : Int32)), .unset, .unset, .unset, .unset, .unset, .unset] []))
              refine Runs.by (fun _ hr => XS.iload X21.here hx rfl (hb hby at_160) rfl  hr) ?_
              have hc162 : ¬ ((1 : Int32) = (0 : Int32)) := (by decide)
              refine Runs.by (fun _ hr => XS.ifNo X21.here hx rfl (hb hby at_162) rfl ((if0 _ _).trans (feq hc162).1) hr) ?_
              refine Runs.by (fun _ hr => XS.iload X21.here hx rfl (hb hby at_165) rfl  hr) ?_
              show Runs p e below _ (T21.setTop (mkF m 167 #[.val (.long q0), .second, .val (.long q1), .second, .val (.int p2), .val (.int p3), .val (.int p4), .val (.long da), .second, .val (.long db), .second, .val (.int (0 : Int32)), .val (.int (0 : Int32)), .val (.ref b1), .val (.int (0 : Int32)), .val (.int s2), .val (.int s3), .val (.int (1 : Int32)), .val (.int (1 : Int32)), .unset, .unset, .unset, .unset, .unset, .unset] [(.int (0 : Int32))]))
              have hc167 : (0 : Int32) = (0 : Int32) := (by decide)
              refine Runs.by (fun _ hr => XS.ifNo X21.here hx rfl (hb hby at_167) rfl ((if0 _ _).trans (teq hc167).2) hr) ?_
              refine Runs.by (fun _ hr => XS.iconst X21.here hx rfl (hb hby at_170) hr) ?_
              refine Runs.by (fun _ hr => XS.goto X21.here hx rfl (pc0 := 171) (pc' := 175) rfl (hb hby at_171) (by decide) (by decide) hr) ?_
              show Runs p e below _ (T21.setTop (mkF m 175 #[.val (.long q0), .second, .val (.long q1), .second, .val (.int p2), .val (.int p3), .val (.int p4), .val (.long da), .second, .val (.long db), .second, .val (.int (0 : Int32)), .val (.int (0 : Int32)), .val (.ref b1), .val (.int (0 : Int32)), .val (.int s2), .val (.int s3), .val (.int (1 : Int32)), .val (.int (1 : Int32)), .unset, .unset, .unset, .unset, .unset, .unset] [(.int (1 : Int32))]))
              refine Runs.by (fun _ hr => XS.istore X21.here hx rfl (hb hby at_175) rfl (l' := #[.val (.long q0), .second, .val (.long q1), .second, .val (.int p2), .val (.int p3), .val (.int p4), .val (.long da), .second, .val (.long db), .second, .val (.int (0 : Int32)), .val (.int (0 : Int32)), .val (.ref b1), .val (.int (0 : Int32)), .val (.int s2), .val (.int s3), .val (.int (1 : Int32)), .val (.int (1 : Int32)), .val (.int (1 : Int32)), .unset, .unset, .unset, .unset, .unset]) rfl hr) ?_
              refine Runs.by (fun _ hr => XS.iload X21.here hx rfl (hb hby at_177) rfl  hr) ?_
              have hc179 : ¬ ((1 : Int32) = (0 : Int32)) := (by decide)
              refine Runs.by (fun _ hr => XS.ifNo X21.here hx rfl (hb hby at_179) rfl ((if0 _ _).trans (feq hc179).1) hr) ?_
              show Runs p e below _ (T21.setTop (mkF m 182 #[.val (.long q0), .second, .val (.long q1), .second, .val (.int p2), .val (.int p3), .val (.int p4), .val (.long da), .second, .val (.long db), .second, .val (.int (0 : Int32)), .val (.int (0 : Int32)), .val (.ref b1), .val (.int (0 : Int32)), .val (.int s2), .val (.int s3), .val (.int (1 : Int32)), .val (.int (1 : Int32)), .val (.int (1 : Int32)), .unset, .unset, .unset, .unset, .unset] []))
              refine Runs.by (fun _ hr => XS.iload X21.here hx rfl (hb hby at_182) rfl  hr) ?_
              have hc184 : ¬ ((1 : Int32) = (0 : Int32)) := (by decide)
              refine Runs.by (fun _ hr => XS.ifNo X21.here hx rfl (hb hby at_184) rfl ((if0 _ _).trans (feq hc184).1) hr) ?_
              refine Runs.by (fun _ hr => XS.iload X21.here hx rfl (hb hby at_187) rfl  hr) ?_
              show Runs p e below _ (T21.setTop (mkF m 189 #[.val (.long q0), .second, .val (.long q1), .second, .val (.int p2), .val (.int p3), .val (.int p4), .val (.long da), .second, .val (.long db), .second, .val (.int (0 : Int32)), .val (.int (0 : Int32)), .val (.ref b1), .val (.int (0 : Int32)), .val (.int s2), .val (.int s3), .val (.int (1 : Int32)), .val (.int (1 : Int32)), .val (.int (1 : Int32)), .unset, .unset, .unset, .unset, .unset] [(.int (0 : Int32))]))
              refine Runs.by (fun _ hr => XS.iload X21.here hx rfl (hb hby at_189) rfl  hr) ?_
              have hc191 : (0 : Int32) = (0 : Int32) := (by decide)
              refine Runs.by (fun _ hr => XS.icmpYes X21.here hx rfl (pc0 := 191) (pc' := 248) rfl (hb hby at_191) rfl (teq hc191).1 (by decide) (by decide) hr) ?_
              refine Runs.by (fun _ hr => XS.iload X21.here hx rfl (hb hby at_248) rfl  hr) ?_
              show Runs p e below _ (T21.setTop (mkF m 250 #[.val (.long q0), .second, .val (.long q1), .second, .val (.int p2), .val (.int p3), .val (.int p4), .val (.long da), .second, .val (.long db), .second, .val (.int (0 : Int32)), .val (.int (0 : Int32)), .val (.ref b1), .val (.int (0 : Int32)), .val (.int s2), .val (.int s3), .val (.int (1 : Int32)), .val (.int (1 : Int32)), .val (.int (1 : Int32)), .unset, .unset, .unset, .unset, .unset] [(.int (1 : Int32))]))
              have hc250 : ¬ ((1 : Int32) = (0 : Int32)) := (by decide)
              refine Runs.by (fun _ hr => XS.ifNo X21.here hx rfl (hb hby at_250) rfl ((if0 _ _).trans (feq hc250).1) hr) ?_
              refine Runs.by (fun _ hr => XS.iload X21.here hx rfl (hb hby at_253) rfl  hr) ?_
              have hc255 : (0 : Int32) = (0 : Int32) := (by decide)
              refine Runs.by (fun _ hr => XS.ifYes X21.here hx rfl (pc0 := 255) (pc' := 268) rfl (hb hby at_255) rfl ((if0 _ _).trans (teq hc255).1) (by decide) (by decide) hr) ?_
              show Runs p e below _ (T21.setTop (mkF m 268 #[.val (.long q0), .second, .val (.long q1), .second, .val (.int p2), .val (.int p3), .val (.int p4), .val (.long da), .second, .val (.long db), .second, .val (.int (0 : Int32)), .val (.int (0 : Int32)), .val (.ref b1), .val (.int (0 : Int32)), .val (.int s2), .val (.int s3), .val (.int (1 : Int32)), .val (.int (1 : Int32)), .val (.int (1 : Int32)), .unset, .unset, .unset, .unset, .unset] []))
              refine Runs.by (fun _ hr => XS.iconst X21.here hx rfl (hb hby at_268) hr) ?_
              refine Runs.by (fun _ hr => XS.goto X21.here hx rfl (pc0 := 269) (pc' := 273) rfl (hb hby at_269) (by decide) (by decide) hr) ?_
              refine Runs.by (fun _ hr => XS.istore X21.here hx rfl (hb hby at_273) rfl (l' := #[.val (.long q0), .second, .val (.long q1), .second, .val (.int p2), .val (.int p3), .val (.int p4), .val (.long da), .second, .val (.long db), .second, .val (.int (0 : Int32)), .val (.int (0 : Int32)), .val (.ref b1), .val (.int (0 : Int32)), .val (.int s2), .val (.int s3), .val (.int (1 : Int32)), .val (.int (1 : Int32)), .val (.int (1 : Int32)), .val (.int (1 : Int32)), .unset, .unset, .unset, .unset]) rfl hr) ?_
              show Runs p e below _ (T21.setTop (mkF m 275 #[.val (.long q0), .second, .val (.long q1), .second, .val (.int p2), .val (.int p3), .val (.int p4), .val (.long da), .second, .val (.long db), .second, .val (.int (0 : Int32)), .val (.int (0 : Int32)), .val (.ref b1), .val (.int (0 : Int32)), .val (.int s2), .val (.int s3), .val (.int (1 : Int32)), .val (.int (1 : Int32)), .val (.int (1 : Int32)), .val (.int (1 : Int32)), .unset, .unset, .unset, .unset] []))
              refine Runs.by (fun _ hr => XS.iload X21.here hx rfl (hb hby at_275) rfl  hr) ?_
              have hc277 : (0 : Int32) = (0 : Int32) := (by decide)
              refine Runs.by (fun _ hr => XS.ifNo X21.here hx rfl (hb hby at_277) rfl ((if0 _ _).trans (teq hc277).2) hr) ?_
              refine Runs.by (fun _ hr => XS.iload X21.here hx rfl (hb hby at_280) rfl  hr) ?_
              show Runs p e below _ (T21.setTop (mkF m 282 #[.val (.long q0), .second, .val (.long q1), .second, .val (.int p2), .val (.int p3), .val (.int p4), .val (.long da), .second, .val (.long db), .second, .val (.int (0 : Int32)), .val (.int (0 : Int32)), .val (.ref b1), .val (.int (0 : Int32)), .val (.int s2), .val (.int s3), .val (.int (1 : Int32)), .val (.int (1 : Int32)), .val (.int (1 : Int32)), .val (.int (1 : Int32)), .unset, .unset, .unset, .unset] [(.int s2)]))
              refine Runs.by (fun _ hr => XS.iload X21.here hx rfl (hb hby at_282) rfl  hr) ?_
              have hc284 : s2 = (1 : Int32) := (by simp [hs2, zD1, nD1])
              refine Runs.by (fun _ hr => XS.icmpNo X21.here hx rfl (hb hby at_284) rfl (teq hc284).2 hr) ?_
              refine Runs.by (fun _ hr => XS.iload X21.here hx rfl (hb hby at_287) rfl  hr) ?_
              show Runs p e below _ (T21.setTop (mkF m 289 #[.val (.long q0), .second, .val (.long q1), .second, .val (.int p2), .val (.int p3), .val (.int p4), .val (.long da), .second, .val (.long db), .second, .val (.int (0 : Int32)), .val (.int (0 : Int32)), .val (.ref b1), .val (.int (0 : Int32)), .val (.int s2), .val (.int s3), .val (.int (1 : Int32)), .val (.int (1 : Int32)), .val (.int (1 : Int32)), .val (.int (1 : Int32)), .unset, .unset, .unset, .unset] [(.int s3)]))
              refine Runs.by (fun _ hr => XS.iload X21.here hx rfl (hb hby at_289) rfl  hr) ?_
              have hc291 : s3 = (1 : Int32) := (by simp [hs3, zD1, zD2, nD1, nD2])
              refine Runs.by (fun _ hr => XS.icmpNo X21.here hx rfl (hb hby at_291) rfl (teq hc291).2 hr) ?_
              refine Runs.by (fun _ hr => XS.iconst X21.here hx rfl (hb hby at_294) hr) ?_
              show Runs p e below _ (T21.setTop (mkF m 295 #[.val (.long q0), .second, .val (.long q1), .second, .val (.int p2), .val (.int p3), .val (.int p4), .val (.long da), .second, .val (.long db), .second, .val (.int (0 : Int32)), .val (.int (0 : Int32)), .val (.ref b1), .val (.int (0 : Int32)), .val (.int s2), .val (.int s3), .val (.int (1 : Int32)), .val (.int (1 : Int32)), .val (.int (1 : Int32)), .val (.int (1 : Int32)), .unset, .unset, .unset, .unset] [(.int (1 : Int32))]))
              refine Runs.by (fun _ hr => XS.goto X21.here hx rfl (pc0 := 295) (pc' := 299) rfl (hb hby at_295) (by decide) (by decide) hr) ?_
              show Runs p e below _ (T21.setTop (mkF m 299 #[.val (.long q0), .second, .val (.long q1), .second, .val (.int p2), .val (.int p3), .val (.int p4), .val (.long da), .second, .val (.long db), .second, .val (.int (0 : Int32)), .val (.int (0 : Int32)), .val (.ref b1), .val (.int (0 : Int32)), .val (.int s2), .val (.int s3), .val (.int (1 : Int32)), .val (.int (1 : Int32)), .val (.int (1 : Int32)), .val (.int (1 : Int32)), .unset, .unset, .unset, .unset] [(.int (1 : Int32))]))
              refine Runs.ret X21 hx hrt hlk (Or.inl ⟨rfl, by simp, _, rfl⟩) (by rfl) (hb hby at_299) (by decide) (by decide) ?_
              exact ⟨rfl, N21⟩
    · -- pc 36: not (p4 &&& (2 : Int32)) = (0 : Int32)
      refine Runs.by (fun _ hr => XS.ifNo X0.here hx rfl (hb hby at_36) rfl ((if0 _ _).trans (feq hc36).1) hr) ?_
      refine Runs.by (fun _ hr => XS.iconst X0.here hx rfl (hb hby at_39) hr) ?_
      show Runs p e below _ (s₁.setTop (mkF m 40 #[.val (.long q0), .second, .val (.long q1), .second, .val (.int p2), .val (.int p3), .val (.int p4), .val (.long da), .second, .val (.long db), .second, .val (.int (0 : Int32)), .unset, .unset, .unset, .unset, .unset, .unset, .unset, .unset, .unset, .unset, .unset, .unset, .unset] [(.int (1 : Int32))]))
      refine Runs.by (fun _ hr => XS.goto X0.here hx rfl (pc0 := 40) (pc' := 44) rfl (hb hby at_40) (by decide) (by decide) hr) ?_
      refine Runs.by (fun _ hr => XS.istore X0.here hx rfl (hb hby at_44) rfl (l' := #[.val (.long q0), .second, .val (.long q1), .second, .val (.int p2), .val (.int p3), .val (.int p4), .val (.long da), .second, .val (.long db), .second, .val (.int (0 : Int32)), .val (.int (1 : Int32)), .unset, .unset, .unset, .unset, .unset, .unset, .unset, .unset, .unset, .unset, .unset, .unset]) rfl hr) ?_
      have cD1 : own_ct (own_D q0 da) := own_ctD cda
      have cD2 : own_ct (own_D q1 db) := own_ctD cdb
      show Runs p e below _ (s₁.setTop (mkF m 46 #[.val (.long q0), .second, .val (.long q1), .second, .val (.int p2), .val (.int p3), .val (.int p4), .val (.long da), .second, .val (.long db), .second, .val (.int (0 : Int32)), .val (.int (1 : Int32)), .unset, .unset, .unset, .unset, .unset, .unset, .unset, .unset, .unset, .unset, .unset, .unset] []))
      obtain ⟨T23, h23, X23, e23, E23, A23, D23, -, st23⟩ := newO X0 hx hZ hown (hw _ (List.mem_of_getElem? (i := 1) rfl)) (hw _ (List.mem_of_getElem? (i := 2) rfl)) (hw _ (List.mem_of_getElem? (i := 3) rfl)) e0 (g := (mkF m 46 #[.val (.long q0), .second, .val (.long q1), .second, .val (.int p2), .val (.int p3), .val (.int p4), .val (.long da), .second, .val (.long db), .second, .val (.int (0 : Int32)), .val (.int (1 : Int32)), .unset, .unset, .unset, .unset, .unset, .unset, .unset, .unset, .unset, .unset, .unset, .unset] [])) rfl (hb hby at_46) (by decide) (by decide)
      obtain ⟨b23, gz23⟩ : ∃ z, z = h0.size := ⟨_, rfl⟩
      rw [← gz23] at A23 D23 st23
      have g_b23 : n0 ≤ b23 := Nat.le_trans (Nat.le_trans Z0 K0.1) (Nat.le_of_eq gz23.symm)
      have sz_b23 : h0.size ≤ b23 := Nat.le_trans K0.1 (Nat.le_of_eq gz23.symm)
      have K24 : Keep h0 h23 [] := K0.ext E23
      have F_nanosPerStep_b23 : Fld Z h23 b23 "com/example/dialtone/dialtone/workload/Workers$Sharing" "nanosPerStep" "[D" .null := D23 (Or.inr (hw _ (List.mem_of_getElem? (i := 12) rfl))) (ty := (.array .double)) (by decide)
      have F_rounds_b23 : Fld Z h23 b23 "com/example/dialtone/dialtone/workload/Workers$Sharing" "rounds" "J" (.long (0 : Int64)) := D23 (Or.inl (hw _ (List.mem_of_getElem? (i := 19) rfl))) (ty := .long) (by decide)
      have F_otherWay_b23 : Fld Z h23 b23 "com/example/dialtone/dialtone/workload/Workers$Sharing" "otherWay" "Z" (.int (0 : Int32)) := D23 (Or.inl (hw _ (List.mem_of_getElem? (i := 21) rfl))) (ty := .boolean) (by decide)
      have F_started_b23 : Fld Z h23 b23 "com/example/dialtone/dialtone/workload/Workers$Sharing" "started" "J" (.long (0 : Int64)) := D23 (Or.inl (hw _ (List.mem_of_getElem? (i := 28) rfl))) (ty := .long) (by decide)
      have F_shared_b23 : Fld Z h23 b23 "com/example/dialtone/dialtone/workload/Workers$Sharing" "shared" "Z" (.int (0 : Int32)) := D23 (Or.inl (hw _ (List.mem_of_getElem? (i := 30) rfl))) (ty := .boolean) (by decide)
      have F_steps_b23 : Fld Z h23 b23 "com/example/dialtone/dialtone/workload/Workers$Sharing" "steps" "J" (.long (0 : Int64)) := D23 (Or.inl (hw _ (List.mem_of_getElem? (i := 32) rfl))) (ty := .long) (by decide)
      have F_sharedOverUnshared_b23 : Fld Z h23 b23 "com/example/dialtone/dialtone/workload/Workers$Sharing" "sharedOverUnshared" "D" (.double (0 : UInt64)) := D23 (Or.inl (hw _ (List.mem_of_getElem? (i := 47) rfl))) (ty := .double) (by decide)
      refine Runs.by st23 ?_
      refine Runs.by (fun _ hr => XS.dup X23.here hx rfl (hb hby at_49) rfl rfl hr) ?_
      show Runs p e below _ (T23.setTop (mkF m 50 #[.val (.long q0), .second, .val (.long q1), .second, .val (.int p2), .val (.int p3), .val (.int p4), .val (.long da), .second, .val (.long db), .second, .val (.int (0 : Int32)), .val (.int (1 : Int32)), .unset, .unset, .unset, .unset, .unset, .unset, .unset, .unset, .unset, .unset, .unset, .unset] [(.ref b23), (.ref b23)]))
      obtain ⟨_, _, ⟨T25, L25, k25, n25⟩, -, X25, ⟨Lc25, hQ25, l25, y25, z25⟩, st25⟩ := X23.specialBack hx (y := (⟨"com/example/dialtone/dialtone/workload/Workers$Sharing", "<init>", "()V"⟩ : MethodName)) rfl hown (mvT hZ (hw _ (List.mem_of_getElem? (i := 4) rfl))) (mvT hZ (hw _ (List.mem_of_getElem? (i := 5) rfl))) (mvT hZ (hw _ (List.mem_of_getElem? (i := 6) rfl))) (by decide) (backOf (W := 1) (rm1 l Z a0 hw [] b23  h23 n0 (Nat.le_trans Z0 K24.1) A23 g_b23 F_nanosPerStep_b23 F_rounds_b23 F_otherWay_b23 F_started_b23 F_shared_b23 F_steps_b23 F_sharedOverUnshared_b23) hZ (hw _ (List.mem_of_getElem? (i := 6) rfl)) (hw _ (List.mem_of_getElem? (i := 3) rfl)) (by decide) (by decide)) (g := (mkF m 50 #[.val (.long q0), .second, .val (.long q1), .second, .val (.int p2), .val (.int p3), .val (.int p4), .val (.long da), .second, .val (.long db), .second, .val (.int (0 : Int32)), .val (.int (1 : Int32)), .unset, .unset, .unset, .unset, .unset, .unset, .unset, .unset, .unset, .unset, .unset, .unset] [(.ref b23), (.ref b23)])) rfl (by rw [hml]; rfl) (Steps.refl _) (a := b23) (argsL := []) (rest := [(.ref b23)]) (lenOf pd_1 rfl) rfl (by show 2 * 0 + _ ≤ _; exact Nat.le_of_eq rfl) (hb hby at_50) (fun _ _ => ⟨rfl, e23, (by decide : 1 + 1 ≤ _), (by decide : 7 + 2 ≤ _)⟩)
      dsimp only [Pt.U, Pt.locs, Pt.cells, Pt.slots] at X25 l25 y25 z25 st25 hQ25
      subst l25 y25 z25
      obtain ⟨rfl, Nq25, Kq25, f25_0, t25, kt25, g_t25, szq_t25, neq_t25, f25_1, f25_2, f25_3, f25_4, f25_5, f25_6, f25_7, f25_8⟩ := hQ25
      have N25 := Fr.app N0 Nq25
      have ne_b23_t25 : b23 ≠ t25 := Nat.ne_of_lt (Nat.lt_of_lt_of_le A23.lt szq_t25)
      have sz_t25 : h0.size ≤ t25 := Nat.le_trans K24.1 szq_t25
      have K26 : Keep h0 T25.heap [] := Keep.trans (ws := []) K24 Kq25 (allS (Or.inr sz_b23) all0)
      refine Runs.by (fun _ hr => st25.trans hr) ?_
      refine Runs.by (fun _ hr => XS.astore X25.here hx rfl (hb hby at_53) rfl rfl (l' := #[.val (.long q0), .second, .val (.long q1), .second, .val (.int p2), .val (.int p3), .val (.int p4), .val (.long da), .second, .val (.long db), .second, .val (.int (0 : Int32)), .val (.int (1 : Int32)), .val (.ref b23), .unset, .unset, .unset, .unset, .unset, .unset, .unset, .unset, .unset, .unset, .unset]) rfl hr) ?_
      have VL0 : Arv Z T25.heap t25 kt25 .double (2 : Int32) [(.double (FP.l2d (0 : Int64))), (.double (FP.l2d (0 : Int64)))] (.double (0 : UInt64)) := by rw [own_l0z]; exact f25_8
      refine Runs.by (fun _ hr => XS.aload X25.here hx rfl (hb hby at_55) rfl rfl hr) ?_
      show Runs p e below _ (T25.setTop (mkF m 57 #[.val (.long q0), .second, .val (.long q1), .second, .val (.int p2), .val (.int p3), .val (.int p4), .val (.long da), .second, .val (.long db), .second, .val (.int (0 : Int32)), .val (.int (1 : Int32)), .val (.ref b23), .unset, .unset, .unset, .unset, .unset, .unset, .unset, .unset, .unset, .unset, .unset] [(.ref b23)]))
      obtain ⟨cq27, kq27, q27a, q27b, q27c⟩ := isOf hZ rfl f25_0
      obtain ⟨_, _, ⟨T27, L27, k27, n27⟩, -, X27, ⟨Lc27, hQ27, l27, y27, z27⟩, st27⟩ := X25.virtualBack hx (y := (⟨"com/example/dialtone/dialtone/workload/Workers$Sharing", "shares", "()Z"⟩ : MethodName)) (z := (⟨"com/example/dialtone/dialtone/workload/Workers$Sharing", "shares", "()Z"⟩ : MethodName)) hown (mvT hZ (hw _ (List.mem_of_getElem? (i := 13) rfl))) (mvT hZ (hw _ (List.mem_of_getElem? (i := 14) rfl))) (notFace_of_selects (args := #[]) (mvT hZ (hw _ (List.mem_of_getElem? (i := 16) rfl)))) (mvT hZ (hw _ (List.mem_of_getElem? (i := 16) rfl))) (mvT hZ (hw _ (List.mem_of_getElem? (i := 15) rfl))) (by decide) (backOf (W := 0) (rm3_0 l Z a0 hw [] b23 t25 kt25 (FP.l2d (0 : Int64)) (FP.l2d (0 : Int64)) (0 : UInt64) (0 : Int64) (0 : Int64) (0 : Int32) T25.heap n0 (Nat.le_trans Z0 K26.1) f25_0 g_b23 g_t25 (Ne.symm ne_b23_t25) f25_1 f25_2 f25_3 f25_4 f25_5 f25_6 f25_7 VL0 ) hZ (hw _ (List.mem_of_getElem? (i := 17) rfl)) (hw _ (List.mem_of_getElem? (i := 3) rfl)) (by decide) (by decide)) q27a q27c (g := (mkF m 57 #[.val (.long q0), .second, .val (.long q1), .second, .val (.int p2), .val (.int p3), .val (.int p4), .val (.long da), .second, .val (.long db), .second, .val (.int (0 : Int32)), .val (.int (1 : Int32)), .val (.ref b23), .unset, .unset, .unset, .unset, .unset, .unset, .unset, .unset, .unset, .unset, .unset] [(.ref b23)])) rfl (by rw [hml]; rfl) (Steps.refl _) (argsL := []) (rest := []) (lenOf pd_2 rfl) rfl (by show 2 * 0 + _ ≤ _; exact Nat.le_of_eq rfl) (hb hby at_57) (fun _ _ => ⟨rfl, rfl, (by decide : 2 + 0 ≤ _), (by decide : 9 + 0 ≤ _)⟩)
      dsimp only [Pt.U, Pt.locs, Pt.cells, Pt.slots] at X27 l27 y27 z27 st27 hQ27
      subst l27 y27 z27
      obtain ⟨rfl, Nq27, Kq27, f27_0, f27_1, f27_2, f27_3, f27_4, f27_5, f27_6, f27_7, f27_8⟩ := hQ27
      have N27 := Fr.app N25 Nq27
      have K28 : Keep h0 T27.heap [] := Keep.trans (ws := []) K26 Kq27 (allS (Or.inr sz_b23) all0)
      refine Runs.by (fun _ hr => st27.trans hr) ?_
      show Runs p e below _ (T27.setTop (mkF m 60 #[.val (.long q0), .second, .val (.long q1), .second, .val (.int p2), .val (.int p3), .val (.int p4), .val (.long da), .second, .val (.long db), .second, .val (.int (0 : Int32)), .val (.int (1 : Int32)), .val (.ref b23), .unset, .unset, .unset, .unset, .unset, .unset, .unset, .unset, .unset, .unset, .unset] [(.int (if (cmpValue (FP.dcmp (FP.l2d (0 : Int64)) FP.dconst0) .l) = (0 : Int32) then (0 : Int32) else if (cmpValue (FP.dcmp (FP.l2d (0 : Int64)) FP.dconst0) .l) = (0 : Int32) then (1 : Int32) else if (0 : Int32) < (cmpValue (FP.dcmp (0 : UInt64) (4606281698874543309 : UInt64)) .g) then (0 : Int32) else (1 : Int32)))]))
      rw [if_pos own_c00]
      refine Runs.by (fun _ hr => XS.istore X27.here hx rfl (hb hby at_60) rfl (l' := #[.val (.long q0), .second, .val (.long q1), .second, .val (.int p2), .val (.int p3), .val (.int p4), .val (.long da), .second, .val (.long db), .second, .val (.int (0 : Int32)), .val (.int (1 : Int32)), .val (.ref b23), .val (.int (0 : Int32)), .unset, .unset, .unset, .unset, .unset, .unset, .unset, .unset, .unset, .unset]) rfl hr) ?_
      refine Runs.by (fun _ hr => XS.aload X27.here hx rfl (hb hby at_62) rfl rfl hr) ?_
      show Runs p e below _ (T27.setTop (mkF m 64 #[.val (.long q0), .second, .val (.long q1), .second, .val (.int p2), .val (.int p3), .val (.int p4), .val (.long da), .second, .val (.long db), .second, .val (.int (0 : Int32)), .val (.int (1 : Int32)), .val (.ref b23), .val (.int (0 : Int32)), .unset, .unset, .unset, .unset, .unset, .unset, .unset, .unset, .unset, .unset] [(.ref b23)]))
      refine Runs.by (fun _ hr => XS.lloadN X27.here hx rfl (hb hby at_64) rfl  hr) ?_
      refine Runs.by (fun _ hr => XS.iload X27.here hx rfl (hb hby at_65) rfl  hr) ?_
      show Runs p e below _ (T27.setTop (mkF m 67 #[.val (.long q0), .second, .val (.long q1), .second, .val (.int p2), .val (.int p3), .val (.int p4), .val (.long da), .second, .val (.long db), .second, .val (.int (0 : Int32)), .val (.int (1 : Int32)), .val (.ref b23), .val (.int (0 : Int32)), .unset, .unset, .unset, .unset, .unset, .unset, .unset, .unset, .unset, .unset] [(.int (0 : Int32)), (.long q0), (.ref b23)]))
      obtain ⟨cq29, kq29, q29a, q29b, q29c⟩ := isOf hZ rfl f27_0
      obtain ⟨_, _, ⟨T29, L29, k29, n29⟩, -, X29, ⟨Lc29, hQ29, l29, y29, z29⟩, st29⟩ := X27.virtualBack hx (y := (⟨"com/example/dialtone/dialtone/workload/Workers$Sharing", "started", "(JZ)V"⟩ : MethodName)) (z := (⟨"com/example/dialtone/dialtone/workload/Workers$Sharing", "started", "(JZ)V"⟩ : MethodName)) hown (mvT hZ (hw _ (List.mem_of_getElem? (i := 22) rfl))) (mvT hZ (hw _ (List.mem_of_getElem? (i := 23) rfl))) (notFace_of_selects (args := #[]) (mvT hZ (hw _ (List.mem_of_getElem? (i := 25) rfl)))) (mvT hZ (hw _ (List.mem_of_getElem? (i := 25) rfl))) (mvT hZ (hw _ (List.mem_of_getElem? (i := 24) rfl))) (by decide) (backOf (W := 0) (rm4_0 l Z a0 hw [] b23 q0 t25 kt25 (FP.l2d (0 : Int64)) (FP.l2d (0 : Int64)) (0 : UInt64) (1 : Int64) (0 : Int64) (0 : Int64) (0 : Int32) T27.heap n0 (Nat.le_trans Z0 K28.1) f27_0 g_b23 g_t25 (Ne.symm ne_b23_t25) f27_1 f27_2 f27_3 f27_4 f27_5 f27_6 f27_7 f27_8 ) hZ (hw _ (List.mem_of_getElem? (i := 26) rfl)) (hw _ (List.mem_of_getElem? (i := 3) rfl)) (by decide) (by decide)) q29a q29c (g := (mkF m 67 #[.val (.long q0), .second, .val (.long q1), .second, .val (.int p2), .val (.int p3), .val (.int p4), .val (.long da), .second, .val (.long db), .second, .val (.int (0 : Int32)), .val (.int (1 : Int32)), .val (.ref b23), .val (.int (0 : Int32)), .unset, .unset, .unset, .unset, .unset, .unset, .unset, .unset, .unset, .unset] [(.int (0 : Int32)), (.long q0), (.ref b23)])) rfl (by rw [hml]; rfl) (Steps.refl _) (argsL := [(.long q0), (.int (0 : Int32))]) (rest := []) (lenOf pd_3 rfl) rfl (by show 2 * 0 + _ ≤ _; exact Nat.le_of_eq rfl) (hb hby at_67) (fun _ _ => ⟨rfl, rfl, (by decide : 2 + 0 ≤ _), (by decide : 9 + 0 ≤ _)⟩)
      dsimp only [Pt.U, Pt.locs, Pt.cells, Pt.slots] at X29 l29 y29 z29 st29 hQ29
      subst l29 y29 z29
      obtain ⟨rfl, Nq29, Kq29, f29_0, f29_1, f29_2, f29_3, f29_4, f29_5, f29_6, f29_7, f29_8⟩ := hQ29
      have N29 := Fr.app N27 Nq29
      have K30 : Keep h0 T29.heap [] := Keep.trans (ws := []) K28 Kq29 (allS (Or.inr sz_b23) all0)
      refine Runs.by (fun _ hr => st29.trans hr) ?_
      refine Runs.by (fun _ hr => XS.aload X29.here hx rfl (hb hby at_70) rfl rfl hr) ?_
      show Runs p e below _ (T29.setTop (mkF m 72 #[.val (.long q0), .second, .val (.long q1), .second, .val (.int p2), .val (.int p3), .val (.int p4), .val (.long da), .second, .val (.long db), .second, .val (.int (0 : Int32)), .val (.int (1 : Int32)), .val (.ref b23), .val (.int (0 : Int32)), .unset, .unset, .unset, .unset, .unset, .unset, .unset, .unset, .unset, .unset] [(.ref b23)]))
      obtain ⟨cq31, kq31, q31a, q31b, q31c⟩ := isOf hZ rfl f29_0
      obtain ⟨_, _, ⟨T31, L31, k31, n31⟩, -, X31, ⟨Lc31, hQ31, l31, y31, z31⟩, st31⟩ := X29.virtualBack hx (y := (⟨"com/example/dialtone/dialtone/workload/Workers$Sharing", "stepped", "()V"⟩ : MethodName)) (z := (⟨"com/example/dialtone/dialtone/workload/Workers$Sharing", "stepped", "()V"⟩ : MethodName)) hown (mvT hZ (hw _ (List.mem_of_getElem? (i := 33) rfl))) (mvT hZ (hw _ (List.mem_of_getElem? (i := 34) rfl))) (notFace_of_selects (args := #[]) (mvT hZ (hw _ (List.mem_of_getElem? (i := 36) rfl)))) (mvT hZ (hw _ (List.mem_of_getElem? (i := 36) rfl))) (mvT hZ (hw _ (List.mem_of_getElem? (i := 35) rfl))) (by decide) (backOf (W := 0) (rm5 l Z a0 hw [] b23 t25 kt25 (FP.l2d (0 : Int64)) (FP.l2d (0 : Int64)) (0 : UInt64) (1 : Int64) q0 (0 : Int32) T29.heap n0 (Nat.le_trans Z0 K30.1) f29_0 g_b23 g_t25 (Ne.symm ne_b23_t25) f29_1 f29_2 f29_3 f29_4 f29_5 f29_6 f29_7 f29_8 ) hZ (hw _ (List.mem_of_getElem? (i := 37) rfl)) (hw _ (List.mem_of_getElem? (i := 3) rfl)) (by decide) (by decide)) q31a q31c (g := (mkF m 72 #[.val (.long q0), .second, .val (.long q1), .second, .val (.int p2), .val (.int p3), .val (.int p4), .val (.long da), .second, .val (.long db), .second, .val (.int (0 : Int32)), .val (.int (1 : Int32)), .val (.ref b23), .val (.int (0 : Int32)), .unset, .unset, .unset, .unset, .unset, .unset, .unset, .unset, .unset, .unset] [(.ref b23)])) rfl (by rw [hml]; rfl) (Steps.refl _) (argsL := []) (rest := []) (lenOf pd_1 rfl) rfl (by show 2 * 0 + _ ≤ _; exact Nat.le_of_eq rfl) (hb hby at_72) (fun _ _ => ⟨rfl, rfl, (by decide : 2 + 0 ≤ _), (by decide : 9 + 0 ≤ _)⟩)
      dsimp only [Pt.U, Pt.locs, Pt.cells, Pt.slots] at X31 l31 y31 z31 st31 hQ31
      subst l31 y31 z31
      obtain ⟨rfl, Nq31, Kq31, f31_0, f31_1, f31_2, f31_3, f31_4, f31_5, f31_6, f31_7, f31_8⟩ := hQ31
      have N31 := Fr.app N29 Nq31
      have K32 : Keep h0 T31.heap [] := Keep.trans (ws := []) K30 Kq31 (allS (Or.inr sz_b23) all0)
      refine Runs.by (fun _ hr => st31.trans hr) ?_
      refine Runs.by (fun _ hr => XS.aload X31.here hx rfl (hb hby at_75) rfl rfl hr) ?_
      refine Runs.by (fun _ hr => XS.lloadN X31.here hx rfl (hb hby at_77) rfl  hr) ?_
      show Runs p e below _ (T31.setTop (mkF m 78 #[.val (.long q0), .second, .val (.long q1), .second, .val (.int p2), .val (.int p3), .val (.int p4), .val (.long da), .second, .val (.long db), .second, .val (.int (0 : Int32)), .val (.int (1 : Int32)), .val (.ref b23), .val (.int (0 : Int32)), .unset, .unset, .unset, .unset, .unset, .unset, .unset, .unset, .unset, .unset] [(.long q0), (.ref b23)]))
      refine Runs.by (fun _ hr => XS.lload X31.here hx rfl (hb hby at_78) rfl  hr) ?_
      refine Runs.by (fun _ hr => XS.ladd X31.here hx rfl (hb hby at_80) rfl hr) ?_
      show Runs p e below _ (T31.setTop (mkF m 81 #[.val (.long q0), .second, .val (.long q1), .second, .val (.int p2), .val (.int p3), .val (.int p4), .val (.long da), .second, .val (.long db), .second, .val (.int (0 : Int32)), .val (.int (1 : Int32)), .val (.ref b23), .val (.int (0 : Int32)), .unset, .unset, .unset, .unset, .unset, .unset, .unset, .unset, .unset, .unset] [(.long (q0 + da)), (.ref b23)]))
      obtain ⟨cq33, kq33, q33a, q33b, q33c⟩ := isOf hZ rfl f31_0
      obtain ⟨_, _, ⟨T33, L33, k33, n33⟩, -, X33, ⟨Lc33, hQ33, l33, y33, z33⟩, st33⟩ := X31.virtualBack hx (y := (⟨"com/example/dialtone/dialtone/workload/Workers$Sharing", "ended", "(J)V"⟩ : MethodName)) (z := (⟨"com/example/dialtone/dialtone/workload/Workers$Sharing", "ended", "(J)V"⟩ : MethodName)) hown (mvT hZ (hw _ (List.mem_of_getElem? (i := 38) rfl))) (mvT hZ (hw _ (List.mem_of_getElem? (i := 39) rfl))) (notFace_of_selects (args := #[]) (mvT hZ (hw _ (List.mem_of_getElem? (i := 41) rfl)))) (mvT hZ (hw _ (List.mem_of_getElem? (i := 41) rfl))) (mvT hZ (hw _ (List.mem_of_getElem? (i := 40) rfl))) (by decide) (backOf (W := 0) (rm6_0z l Z a0 hw [] b23 (q0 + da) t25 kt25 (1 : Int64) q0 da (0 : Int64) T31.heap n0 (Nat.le_trans Z0 K32.1) f31_0 g_b23 g_t25 (Ne.symm ne_b23_t25) f31_1 f31_2 f31_3 f31_4 f31_5 f31_6 f31_7 f31_8 (own_asub q0 da) cda own_ct0) hZ (hw _ (List.mem_of_getElem? (i := 42) rfl)) (hw _ (List.mem_of_getElem? (i := 3) rfl)) (by decide) (by decide)) q33a q33c (g := (mkF m 81 #[.val (.long q0), .second, .val (.long q1), .second, .val (.int p2), .val (.int p3), .val (.int p4), .val (.long da), .second, .val (.long db), .second, .val (.int (0 : Int32)), .val (.int (1 : Int32)), .val (.ref b23), .val (.int (0 : Int32)), .unset, .unset, .unset, .unset, .unset, .unset, .unset, .unset, .unset, .unset] [(.long (q0 + da)), (.ref b23)])) rfl (by rw [hml]; rfl) (Steps.refl _) (argsL := [(.long (q0 + da))]) (rest := []) (lenOf pd_4 rfl) rfl (by show 2 * 0 + _ ≤ _; exact Nat.le_of_eq rfl) (hb hby at_81) (fun _ _ => ⟨rfl, rfl, (by decide : 2 + 0 ≤ _), (by decide : 9 + 0 ≤ _)⟩)
      dsimp only [Pt.U, Pt.locs, Pt.cells, Pt.slots] at X33 l33 y33 z33 st33 hQ33
      subst l33 y33 z33
      obtain ⟨rfl, Nq33, Kq33, f33_0, f33_1, f33_2, f33_3, f33_4, f33_5, f33_6, f33_7, f33_8⟩ := hQ33
      have N33 := Fr.app N31 Nq33
      have K34 : Keep h0 T33.heap [] := Keep.trans (ws := []) K32 Kq33 (allS (Or.inr sz_b23) (allS (Or.inr sz_t25) all0))
      refine Runs.by (fun _ hr => st33.trans hr) ?_
      have FQ := f33_7
      rw [own_Q0] at FQ
      refine Runs.by (fun _ hr => XS.aload X33.here hx rfl (hb hby at_84) rfl rfl hr) ?_
      show Runs p e below _ (T33.setTop (mkF m 86 #[.val (.long q0), .second, .val (.long q1), .second, .val (.int p2), .val (.int p3), .val (.int p4), .val (.long da), .second, .val (.long db), .second, .val (.int (0 : Int32)), .val (.int (1 : Int32)), .val (.ref b23), .val (.int (0 : Int32)), .unset, .unset, .unset, .unset, .unset, .unset, .unset, .unset, .unset, .unset] [(.ref b23)]))
      obtain ⟨cq35, kq35, q35a, q35b, q35c⟩ := isOf hZ rfl f33_0
      obtain ⟨_, _, ⟨T35, L35, k35, n35⟩, -, X35, ⟨Lc35, hQ35, l35, y35, z35⟩, st35⟩ := X33.virtualBack hx (y := (⟨"com/example/dialtone/dialtone/workload/Workers$Sharing", "shares", "()Z"⟩ : MethodName)) (z := (⟨"com/example/dialtone/dialtone/workload/Workers$Sharing", "shares", "()Z"⟩ : MethodName)) hown (mvT hZ (hw _ (List.mem_of_getElem? (i := 13) rfl))) (mvT hZ (hw _ (List.mem_of_getElem? (i := 14) rfl))) (notFace_of_selects (args := #[]) (mvT hZ (hw _ (List.mem_of_getElem? (i := 16) rfl)))) (mvT hZ (hw _ (List.mem_of_getElem? (i := 16) rfl))) (mvT hZ (hw _ (List.mem_of_getElem? (i := 15) rfl))) (by decide) (backOf (W := 0) (rm3_1 l Z a0 hw [] b23 t25 kt25 (FP.l2d (own_D q0 da)) (FP.l2d (0 : Int64)) (0 : UInt64) (0 : Int64) (1 : Int64) (0 : Int32) T33.heap n0 (Nat.le_trans Z0 K34.1) f33_0 g_b23 g_t25 (Ne.symm ne_b23_t25) f33_1 f33_2 f33_3 f33_4 f33_5 f33_6 FQ f33_8 ) hZ (hw _ (List.mem_of_getElem? (i := 17) rfl)) (hw _ (List.mem_of_getElem? (i := 3) rfl)) (by decide) (by decide)) q35a q35c (g := (mkF m 86 #[.val (.long q0), .second, .val (.long q1), .second, .val (.int p2), .val (.int p3), .val (.int p4), .val (.long da), .second, .val (.long db), .second, .val (.int (0 : Int32)), .val (.int (1 : Int32)), .val (.ref b23), .val (.int (0 : Int32)), .unset, .unset, .unset, .unset, .unset, .unset, .unset, .unset, .unset, .unset] [(.ref b23)])) rfl (by rw [hml]; rfl) (Steps.refl _) (argsL := []) (rest := []) (lenOf pd_2 rfl) rfl (by show 2 * 0 + _ ≤ _; exact Nat.le_of_eq rfl) (hb hby at_86) (fun _ _ => ⟨rfl, rfl, (by decide : 2 + 0 ≤ _), (by decide : 9 + 0 ≤ _)⟩)
      dsimp only [Pt.U, Pt.locs, Pt.cells, Pt.slots] at X35 l35 y35 z35 st35 hQ35
      subst l35 y35 z35
      obtain ⟨rfl, Nq35, Kq35, f35_0, f35_1, f35_2, f35_3, f35_4, f35_5, f35_6, f35_7, f35_8⟩ := hQ35
      have N35 := Fr.app N33 Nq35
      have K36 : Keep h0 T35.heap [] := Keep.trans (ws := []) K34 Kq35 (allS (Or.inr sz_b23) all0)
      refine Runs.by (fun _ hr => st35.trans hr) ?_
      obtain ⟨s2, es2⟩ : ∃ z : Int32, z = (if (cmpValue (FP.dcmp (FP.l2d (own_D q0 da)) FP.dconst0) .l) = (0 : Int32) then (0 : Int32) else if (cmpValue (FP.dcmp (FP.l2d (0 : Int64)) FP.dconst0) .l) = (0 : Int32) then (1 : Int32) else if (0 : Int32) < (cmpValue (FP.dcmp (0 : UInt64) (4606281698874543309 : UInt64)) .g) then (0 : Int32) else (1 : Int32)) := ⟨_, rfl⟩
      show Runs p e below _ (T35.setTop (mkF m 89 #[.val (.long q0), .second, .val (.long q1), .second, .val (.int p2), .val (.int p3), .val (.int p4), .val (.long da), .second, .val (.long db), .second, .val (.int (0 : Int32)), .val (.int (1 : Int32)), .val (.ref b23), .val (.int (0 : Int32)), .unset, .unset, .unset, .unset, .unset, .unset, .unset, .unset, .unset, .unset] [(.int (if (cmpValue (FP.dcmp (FP.l2d (own_D q0 da)) FP.dconst0) .l) = (0 : Int32) then (0 : Int32) else if (cmpValue (FP.dcmp (FP.l2d (0 : Int64)) FP.dconst0) .l) = (0 : Int32) then (1 : Int32) else if (0 : Int32) < (cmpValue (FP.dcmp (0 : UInt64) (4606281698874543309 : UInt64)) .g) then (0 : Int32) else (1 : Int32)))]))
      rw [← es2]
      have hs2 : s2 = (if (own_D q0 da) = 0 then (0 : Int32) else (1 : Int32)) := es2.trans (own_s2_0 cD1 _)
      refine Runs.by (fun _ hr => XS.istore X35.here hx rfl (hb hby at_89) rfl (l' := #[.val (.long q0), .second, .val (.long q1), .second, .val (.int p2), .val (.int p3), .val (.int p4), .val (.long da), .second, .val (.long db), .second, .val (.int (0 : Int32)), .val (.int (1 : Int32)), .val (.ref b23), .val (.int (0 : Int32)), .val (.int s2), .unset, .unset, .unset, .unset, .unset, .unset, .unset, .unset, .unset]) rfl hr) ?_
      refine Runs.by (fun _ hr => XS.aload X35.here hx rfl (hb hby at_91) rfl rfl hr) ?_
      show Runs p e below _ (T35.setTop (mkF m 93 #[.val (.long q0), .second, .val (.long q1), .second, .val (.int p2), .val (.int p3), .val (.int p4), .val (.long da), .second, .val (.long db), .second, .val (.int (0 : Int32)), .val (.int (1 : Int32)), .val (.ref b23), .val (.int (0 : Int32)), .val (.int s2), .unset, .unset, .unset, .unset, .unset, .unset, .unset, .unset, .unset] [(.ref b23)]))
      refine Runs.by (fun _ hr => XS.lloadN X35.here hx rfl (hb hby at_93) rfl  hr) ?_
      refine Runs.by (fun _ hr => XS.iload X35.here hx rfl (hb hby at_94) rfl  hr) ?_
      show Runs p e below _ (T35.setTop (mkF m 96 #[.val (.long q0), .second, .val (.long q1), .second, .val (.int p2), .val (.int p3), .val (.int p4), .val (.long da), .second, .val (.long db), .second, .val (.int (0 : Int32)), .val (.int (1 : Int32)), .val (.ref b23), .val (.int (0 : Int32)), .val (.int s2), .unset, .unset, .unset, .unset, .unset, .unset, .unset, .unset, .unset] [(.int (1 : Int32)), (.long q1), (.ref b23)]))
      obtain ⟨cq37, kq37, q37a, q37b, q37c⟩ := isOf hZ rfl f35_0
      obtain ⟨_, _, ⟨T37, L37, k37, n37⟩, -, X37, ⟨Lc37, hQ37, l37, y37, z37⟩, st37⟩ := X35.virtualBack hx (y := (⟨"com/example/dialtone/dialtone/workload/Workers$Sharing", "started", "(JZ)V"⟩ : MethodName)) (z := (⟨"com/example/dialtone/dialtone/workload/Workers$Sharing", "started", "(JZ)V"⟩ : MethodName)) hown (mvT hZ (hw _ (List.mem_of_getElem? (i := 22) rfl))) (mvT hZ (hw _ (List.mem_of_getElem? (i := 23) rfl))) (notFace_of_selects (args := #[]) (mvT hZ (hw _ (List.mem_of_getElem? (i := 25) rfl)))) (mvT hZ (hw _ (List.mem_of_getElem? (i := 25) rfl))) (mvT hZ (hw _ (List.mem_of_getElem? (i := 24) rfl))) (by decide) (backOf (W := 0) (rm4_1 l Z a0 hw [] b23 q1 t25 kt25 (FP.l2d (own_D q0 da)) (FP.l2d (0 : Int64)) (0 : UInt64) (2 : Int64) (0 : Int64) (1 : Int64) (0 : Int32) T35.heap n0 (Nat.le_trans Z0 K36.1) f35_0 g_b23 g_t25 (Ne.symm ne_b23_t25) f35_1 f35_2 f35_3 f35_4 f35_5 f35_6 f35_7 f35_8 ) hZ (hw _ (List.mem_of_getElem? (i := 26) rfl)) (hw _ (List.mem_of_getElem? (i := 3) rfl)) (by decide) (by decide)) q37a q37c (g := (mkF m 96 #[.val (.long q0), .second, .val (.long q1), .second, .val (.int p2), .val (.int p3), .val (.int p4), .val (.long da), .second, .val (.long db), .second, .val (.int (0 : Int32)), .val (.int (1 : Int32)), .val (.ref b23), .val (.int (0 : Int32)), .val (.int s2), .unset, .unset, .unset, .unset, .unset, .unset, .unset, .unset, .unset] [(.int (1 : Int32)), (.long q1), (.ref b23)])) rfl (by rw [hml]; rfl) (Steps.refl _) (argsL := [(.long q1), (.int (1 : Int32))]) (rest := []) (lenOf pd_3 rfl) rfl (by show 2 * 0 + _ ≤ _; exact Nat.le_of_eq rfl) (hb hby at_96) (fun _ _ => ⟨rfl, rfl, (by decide : 2 + 0 ≤ _), (by decide : 9 + 0 ≤ _)⟩)
      dsimp only [Pt.U, Pt.locs, Pt.cells, Pt.slots] at X37 l37 y37 z37 st37 hQ37
      subst l37 y37 z37
      obtain ⟨rfl, Nq37, Kq37, f37_0, f37_1, f37_2, f37_3, f37_4, f37_5, f37_6, f37_7, f37_8⟩ := hQ37
      have N37 := Fr.app N35 Nq37
      have K38 : Keep h0 T37.heap [] := Keep.trans (ws := []) K36 Kq37 (allS (Or.inr sz_b23) all0)
      refine Runs.by (fun _ hr => st37.trans hr) ?_
      refine Runs.by (fun _ hr => XS.aload X37.here hx rfl (hb hby at_99) rfl rfl hr) ?_
      show Runs p e below _ (T37.setTop (mkF m 101 #[.val (.long q0), .second, .val (.long q1), .second, .val (.int p2), .val (.int p3), .val (.int p4), .val (.long da), .second, .val (.long db), .second, .val (.int (0 : Int32)), .val (.int (1 : Int32)), .val (.ref b23), .val (.int (0 : Int32)), .val (.int s2), .unset, .unset, .unset, .unset, .unset, .unset, .unset, .unset, .unset] [(.ref b23)]))
      obtain ⟨cq39, kq39, q39a, q39b, q39c⟩ := isOf hZ rfl f37_0
      obtain ⟨_, _, ⟨T39, L39, k39, n39⟩, -, X39, ⟨Lc39, hQ39, l39, y39, z39⟩, st39⟩ := X37.virtualBack hx (y := (⟨"com/example/dialtone/dialtone/workload/Workers$Sharing", "stepped", "()V"⟩ : MethodName)) (z := (⟨"com/example/dialtone/dialtone/workload/Workers$Sharing", "stepped", "()V"⟩ : MethodName)) hown (mvT hZ (hw _ (List.mem_of_getElem? (i := 33) rfl))) (mvT hZ (hw _ (List.mem_of_getElem? (i := 34) rfl))) (notFace_of_selects (args := #[]) (mvT hZ (hw _ (List.mem_of_getElem? (i := 36) rfl)))) (mvT hZ (hw _ (List.mem_of_getElem? (i := 36) rfl))) (mvT hZ (hw _ (List.mem_of_getElem? (i := 35) rfl))) (by decide) (backOf (W := 0) (rm5 l Z a0 hw [] b23 t25 kt25 (FP.l2d (own_D q0 da)) (FP.l2d (0 : Int64)) (0 : UInt64) (2 : Int64) q1 (1 : Int32) T37.heap n0 (Nat.le_trans Z0 K38.1) f37_0 g_b23 g_t25 (Ne.symm ne_b23_t25) f37_1 f37_2 f37_3 f37_4 f37_5 f37_6 f37_7 f37_8 ) hZ (hw _ (List.mem_of_getElem? (i := 37) rfl)) (hw _ (List.mem_of_getElem? (i := 3) rfl)) (by decide) (by decide)) q39a q39c (g := (mkF m 101 #[.val (.long q0), .second, .val (.long q1), .second, .val (.int p2), .val (.int p3), .val (.int p4), .val (.long da), .second, .val (.long db), .second, .val (.int (0 : Int32)), .val (.int (1 : Int32)), .val (.ref b23), .val (.int (0 : Int32)), .val (.int s2), .unset, .unset, .unset, .unset, .unset, .unset, .unset, .unset, .unset] [(.ref b23)])) rfl (by rw [hml]; rfl) (Steps.refl _) (argsL := []) (rest := []) (lenOf pd_1 rfl) rfl (by show 2 * 0 + _ ≤ _; exact Nat.le_of_eq rfl) (hb hby at_101) (fun _ _ => ⟨rfl, rfl, (by decide : 2 + 0 ≤ _), (by decide : 9 + 0 ≤ _)⟩)
      dsimp only [Pt.U, Pt.locs, Pt.cells, Pt.slots] at X39 l39 y39 z39 st39 hQ39
      subst l39 y39 z39
      obtain ⟨rfl, Nq39, Kq39, f39_0, f39_1, f39_2, f39_3, f39_4, f39_5, f39_6, f39_7, f39_8⟩ := hQ39
      have N39 := Fr.app N37 Nq39
      have K40 : Keep h0 T39.heap [] := Keep.trans (ws := []) K38 Kq39 (allS (Or.inr sz_b23) all0)
      refine Runs.by (fun _ hr => st39.trans hr) ?_
      refine Runs.by (fun _ hr => XS.aload X39.here hx rfl (hb hby at_104) rfl rfl hr) ?_
      refine Runs.by (fun _ hr => XS.lloadN X39.here hx rfl (hb hby at_106) rfl  hr) ?_
      show Runs p e below _ (T39.setTop (mkF m 107 #[.val (.long q0), .second, .val (.long q1), .second, .val (.int p2), .val (.int p3), .val (.int p4), .val (.long da), .second, .val (.long db), .second, .val (.int (0 : Int32)), .val (.int (1 : Int32)), .val (.ref b23), .val (.int (0 : Int32)), .val (.int s2), .unset, .unset, .unset, .unset, .unset, .unset, .unset, .unset, .unset] [(.long q1), (.ref b23)]))
      refine Runs.by (fun _ hr => XS.lload X39.here hx rfl (hb hby at_107) rfl  hr) ?_
      refine Runs.by (fun _ hr => XS.ladd X39.here hx rfl (hb hby at_109) rfl hr) ?_
      show Runs p e below _ (T39.setTop (mkF m 110 #[.val (.long q0), .second, .val (.long q1), .second, .val (.int p2), .val (.int p3), .val (.int p4), .val (.long da), .second, .val (.long db), .second, .val (.int (0 : Int32)), .val (.int (1 : Int32)), .val (.ref b23), .val (.int (0 : Int32)), .val (.int s2), .unset, .unset, .unset, .unset, .unset, .unset, .unset, .unset, .unset] [(.long (q1 + db)), (.ref b23)]))
      obtain ⟨cq41, kq41, q41a, q41b, q41c⟩ := isOf hZ rfl f39_0
      obtain ⟨_, _, ⟨T41, L41, k41, n41⟩, -, X41, ⟨Lc41, hQ41, l41, y41, z41⟩, st41⟩ := X39.virtualBack hx (y := (⟨"com/example/dialtone/dialtone/workload/Workers$Sharing", "ended", "(J)V"⟩ : MethodName)) (z := (⟨"com/example/dialtone/dialtone/workload/Workers$Sharing", "ended", "(J)V"⟩ : MethodName)) hown (mvT hZ (hw _ (List.mem_of_getElem? (i := 38) rfl))) (mvT hZ (hw _ (List.mem_of_getElem? (i := 39) rfl))) (notFace_of_selects (args := #[]) (mvT hZ (hw _ (List.mem_of_getElem? (i := 41) rfl)))) (mvT hZ (hw _ (List.mem_of_getElem? (i := 41) rfl))) (mvT hZ (hw _ (List.mem_of_getElem? (i := 40) rfl))) (by decide) (backOf (W := 0) (rm6_1z l Z a0 hw [] b23 (q1 + db) t25 kt25 (2 : Int64) q1 db (own_D q0 da) T39.heap n0 (Nat.le_trans Z0 K40.1) f39_0 g_b23 g_t25 (Ne.symm ne_b23_t25) f39_1 f39_2 f39_3 f39_4 f39_5 f39_6 f39_7 f39_8 (own_asub q1 db) cdb cD1) hZ (hw _ (List.mem_of_getElem? (i := 42) rfl)) (hw _ (List.mem_of_getElem? (i := 3) rfl)) (by decide) (by decide)) q41a q41c (g := (mkF m 110 #[.val (.long q0), .second, .val (.long q1), .second, .val (.int p2), .val (.int p3), .val (.int p4), .val (.long da), .second, .val (.long db), .second, .val (.int (0 : Int32)), .val (.int (1 : Int32)), .val (.ref b23), .val (.int (0 : Int32)), .val (.int s2), .unset, .unset, .unset, .unset, .unset, .unset, .unset, .unset, .unset] [(.long (q1 + db)), (.ref b23)])) rfl (by rw [hml]; rfl) (Steps.refl _) (argsL := [(.long (q1 + db))]) (rest := []) (lenOf pd_4 rfl) rfl (by show 2 * 0 + _ ≤ _; exact Nat.le_of_eq rfl) (hb hby at_110) (fun _ _ => ⟨rfl, rfl, (by decide : 2 + 0 ≤ _), (by decide : 9 + 0 ≤ _)⟩)
      dsimp only [Pt.U, Pt.locs, Pt.cells, Pt.slots] at X41 l41 y41 z41 st41 hQ41
      subst l41 y41 z41
      obtain ⟨rfl, Nq41, Kq41, f41_0, f41_1, f41_2, f41_3, f41_4, f41_5, f41_6, f41_7, f41_8⟩ := hQ41
      have N41 := Fr.app N39 Nq41
      have K42 : Keep h0 T41.heap [] := Keep.trans (ws := []) K40 Kq41 (allS (Or.inr sz_b23) (allS (Or.inr sz_t25) all0))
      refine Runs.by (fun _ hr => st41.trans hr) ?_
      refine Runs.by (fun _ hr => XS.aload X41.here hx rfl (hb hby at_113) rfl rfl hr) ?_
      show Runs p e below _ (T41.setTop (mkF m 115 #[.val (.long q0), .second, .val (.long q1), .second, .val (.int p2), .val (.int p3), .val (.int p4), .val (.long da), .second, .val (.long db), .second, .val (.int (0 : Int32)), .val (.int (1 : Int32)), .val (.ref b23), .val (.int (0 : Int32)), .val (.int s2), .unset, .unset, .unset, .unset, .unset, .unset, .unset, .unset, .unset] [(.ref b23)]))
      obtain ⟨cq43, kq43, q43a, q43b, q43c⟩ := isOf hZ rfl f41_0
      obtain ⟨_, _, ⟨T43, L43, k43, n43⟩, -, X43, ⟨Lc43, hQ43, l43, y43, z43⟩, st43⟩ := X41.virtualBack hx (y := (⟨"com/example/dialtone/dialtone/workload/Workers$Sharing", "shares", "()Z"⟩ : MethodName)) (z := (⟨"com/example/dialtone/dialtone/workload/Workers$Sharing", "shares", "()Z"⟩ : MethodName)) hown (mvT hZ (hw _ (List.mem_of_getElem? (i := 13) rfl))) (mvT hZ (hw _ (List.mem_of_getElem? (i := 14) rfl))) (notFace_of_selects (args := #[]) (mvT hZ (hw _ (List.mem_of_getElem? (i := 16) rfl)))) (mvT hZ (hw _ (List.mem_of_getElem? (i := 16) rfl))) (mvT hZ (hw _ (List.mem_of_getElem? (i := 15) rfl))) (by decide) (backOf (W := 0) (rm3_2 l Z a0 hw [] b23 t25 kt25 (FP.l2d (own_D q0 da)) (FP.l2d (own_D q1 db)) (own_Q q1 (own_D q0 da) (FP.ddiv (FP.l2d (own_D q1 db)) (FP.l2d (own_D q0 da)))) (0 : Int64) (1 : Int64) (1 : Int32) T41.heap n0 (Nat.le_trans Z0 K42.1) f41_0 g_b23 g_t25 (Ne.symm ne_b23_t25) f41_1 f41_2 f41_3 f41_4 f41_5 f41_6 f41_7 f41_8 ) hZ (hw _ (List.mem_of_getElem? (i := 17) rfl)) (hw _ (List.mem_of_getElem? (i := 3) rfl)) (by decide) (by decide)) q43a q43c (g := (mkF m 115 #[.val (.long q0), .second, .val (.long q1), .second, .val (.int p2), .val (.int p3), .val (.int p4), .val (.long da), .second, .val (.long db), .second, .val (.int (0 : Int32)), .val (.int (1 : Int32)), .val (.ref b23), .val (.int (0 : Int32)), .val (.int s2), .unset, .unset, .unset, .unset, .unset, .unset, .unset, .unset, .unset] [(.ref b23)])) rfl (by rw [hml]; rfl) (Steps.refl _) (argsL := []) (rest := []) (lenOf pd_2 rfl) rfl (by show 2 * 0 + _ ≤ _; exact Nat.le_of_eq rfl) (hb hby at_115) (fun _ _ => ⟨rfl, rfl, (by decide : 2 + 0 ≤ _), (by decide : 9 + 0 ≤ _)⟩)
      dsimp only [Pt.U, Pt.locs, Pt.cells, Pt.slots] at X43 l43 y43 z43 st43 hQ43
      subst l43 y43 z43
      obtain ⟨rfl, Nq43, Kq43, f43_0, f43_1, f43_2, f43_3, f43_4, f43_5, f43_6, f43_7, f43_8⟩ := hQ43
      have N43 := Fr.app N41 Nq43
      have K44 : Keep h0 T43.heap [] := Keep.trans (ws := []) K42 Kq43 (allS (Or.inr sz_b23) all0)
      refine Runs.by (fun _ hr => st43.trans hr) ?_
      obtain ⟨s3, es3⟩ : ∃ z : Int32, z = (if (cmpValue (FP.dcmp (FP.l2d (own_D q0 da)) FP.dconst0) .l) = (0 : Int32) then (0 : Int32) else if (cmpValue (FP.dcmp (FP.l2d (own_D q1 db)) FP.dconst0) .l) = (0 : Int32) then (1 : Int32) else if (0 : Int32) < (cmpValue (FP.dcmp (own_Q q1 (own_D q0 da) (FP.ddiv (FP.l2d (own_D q1 db)) (FP.l2d (own_D q0 da)))) (4606281698874543309 : UInt64)) .g) then (0 : Int32) else (1 : Int32)) := ⟨_, rfl⟩
      show Runs p e below _ (T43.setTop (mkF m 118 #[.val (.long q0), .second, .val (.long q1), .second, .val (.int p2), .val (.int p3), .val (.int p4), .val (.long da), .second, .val (.long db), .second, .val (.int (0 : Int32)), .val (.int (1 : Int32)), .val (.ref b23), .val (.int (0 : Int32)), .val (.int s2), .unset, .unset, .unset, .unset, .unset, .unset, .unset, .unset, .unset] [(.int (if (cmpValue (FP.dcmp (FP.l2d (own_D q0 da)) FP.dconst0) .l) = (0 : Int32) then (0 : Int32) else if (cmpValue (FP.dcmp (FP.l2d (own_D q1 db)) FP.dconst0) .l) = (0 : Int32) then (1 : Int32) else if (0 : Int32) < (cmpValue (FP.dcmp (own_Q q1 (own_D q0 da) (FP.ddiv (FP.l2d (own_D q1 db)) (FP.l2d (own_D q0 da)))) (4606281698874543309 : UInt64)) .g) then (0 : Int32) else (1 : Int32)))]))
      rw [← es3]
      have hs3 : s3 = (if (own_D q0 da) = 0 then (0 : Int32) else if (own_D q1 db) = 0 then (1 : Int32) else if 10 * (own_D q1 db).toInt ≤ 9 * (own_D q0 da).toInt then (1 : Int32) else (0 : Int32)) := es3.trans (own_s3_m cD1 cD2 (fun h0 h1 => own_Qv h1 h0))
      refine Runs.by (fun _ hr => XS.istore X43.here hx rfl (hb hby at_118) rfl (l' := #[.val (.long q0), .second, .val (.long q1), .second, .val (.int p2), .val (.int p3), .val (.int p4), .val (.long da), .second, .val (.long db), .second, .val (.int (0 : Int32)), .val (.int (1 : Int32)), .val (.ref b23), .val (.int (0 : Int32)), .val (.int s2), .val (.int s3), .unset, .unset, .unset, .unset, .unset, .unset, .unset, .unset]) rfl hr) ?_
      refine Runs.by (fun _ hr => XS.lloadN X43.here hx rfl (hb hby at_120) rfl  hr) ?_
      show Runs p e below _ (T43.setTop (mkF m 121 #[.val (.long q0), .second, .val (.long q1), .second, .val (.int p2), .val (.int p3), .val (.int p4), .val (.long da), .second, .val (.long db), .second, .val (.int (0 : Int32)), .val (.int (1 : Int32)), .val (.ref b23), .val (.int (0 : Int32)), .val (.int s2), .val (.int s3), .unset, .unset, .unset, .unset, .unset, .unset, .unset, .unset] [(.long q0)]))
      refine Runs.by (fun _ hr => XS.lconst X43.here hx rfl (hb hby at_121) hr) ?_
      refine Runs.by (fun _ hr => XS.lcmp X43.here hx rfl (hb hby at_122) rfl hr) ?_
      by_cases hc123 : (lcmpW q0 (0 : Int64)) = (0 : Int32)
      · -- pc 123: (lcmpW q0 (0 : Int64)) = (0 : Int32)
        refine Runs.by (fun _ hr => XS.ifYes X43.here hx rfl (pc0 := 123) (pc' := 137) rfl (hb hby at_123) rfl ((if0 _ _).trans (teq hc123).1) (by decide) (by decide) hr) ?_
        show Runs p e below _ (T43.setTop (mkF m 137 #[.val (.long q0), .second, .val (.long q1), .second, .val (.int p2), .val (.int p3), .val (.int p4), .val (.long da), .second, .val (.long db), .second, .val (.int (0 : Int32)), .val (.int (1 : Int32)), .val (.ref b23), .val (.int (0 : Int32)), .val (.int s2), .val (.int s3), .unset, .unset, .unset, .unset, .unset, .unset, .unset, .unset] []))
        refine Runs.by (fun _ hr => XS.iconst X43.here hx rfl (hb hby at_137) hr) ?_
        refine Runs.by (fun _ hr => XS.istore X43.here hx rfl (hb hby at_138) rfl (l' := #[.val (.long q0), .second, .val (.long q1), .second, .val (.int p2), .val (.int p3), .val (.int p4), .val (.long da), .second, .val (.long db), .second, .val (.int (0 : Int32)), .val (.int (1 : Int32)), .val (.ref b23), .val (.int (0 : Int32)), .val (.int s2), .val (.int s3), .val (.int (0 : Int32)), .unset, .unset, .unset, .unset, .unset, .unset, .unset]) rfl hr) ?_
        have zD1 : own_D q0 da = 0 := own_Dz1 (own_lcz.mp hc123)
        refine Runs.by (fun _ hr => XS.lloadN X43.here hx rfl (hb hby at_140) rfl  hr) ?_
        show Runs p e below _ (T43.setTop (mkF m 141 #[.val (.long q0), .second, .val (.long q1), .second, .val (.int p2), .val (.int p3), .val (.int p4), .val (.long da), .second, .val (.long db), .second, .val (.int (0 : Int32)), .val (.int (1 : Int32)), .val (.ref b23), .val (.int (0 : Int32)), .val (.int s2), .val (.int s3), .val (.int (0 : Int32)), .unset, .unset, .unset, .unset, .unset, .unset, .unset] [(.long q1)]))
        refine Runs.by (fun _ hr => XS.lconst X43.here hx rfl (hb hby at_141) hr) ?_
        refine Runs.by (fun _ hr => XS.lcmp X43.here hx rfl (hb hby at_142) rfl hr) ?_
        by_cases hc143 : (lcmpW q1 (0 : Int64)) = (0 : Int32)
        · -- pc 143: (lcmpW q1 (0 : Int64)) = (0 : Int32)
          refine Runs.by (fun _ hr => XS.ifYes X43.here hx rfl (pc0 := 143) (pc' := 157) rfl (hb hby at_143) rfl ((if0 _ _).trans (teq hc143).1) (by decide) (by decide) hr) ?_
          show Runs p e below _ (T43.setTop (mkF m 157 #[.val (.long q0), .second, .val (.long q1), .second, .val (.int p2), .val (.int p3), .val (.int p4), .val (.long da), .second, .val (.long db), .second, .val (.int (0 : Int32)), .val (.int (1 : Int32)), .val (.ref b23), .val (.int (0 : Int32)), .val (.int s2), .val (.int s3), .val (.int (0 : Int32)), .unset, .unset, .unset, .unset, .unset, .unset, .unset] []))
          refine Runs.by (fun _ hr => XS.iconst X43.here hx rfl (hb hby at_157) hr) ?_
          refine Runs.by (fun _ hr => XS.istore X43.here hx rfl (hb hby at_158) rfl (l' := #[.val (.long q0), .second, .val (.long q1), .second, .val (.int p2), .val (.int p3), .val (.int p4), .val (.long da), .second, .val (.long db), .second, .val (.int (0 : Int32)), .val (.int (1 : Int32)), .val (.ref b23), .val (.int (0 : Int32)), .val (.int s2), .val (.int s3), .val (.int (0 : Int32)), .val (.int (0 : Int32)), .unset, .unset, .unset, .unset, .unset, .unset]) rfl hr) ?_
          have zD2 : own_D q1 db = 0 := own_Dz1 (own_lcz.mp hc143)
          refine Runs.by (fun _ hr => XS.iload X43.here hx rfl (hb hby at_160) rfl  hr) ?_
          show Runs p e below _ (T43.setTop (mkF m 162 #[.val (.long q0), .second, .val (.long q1), .second, .val (.int p2), .val (.int p3), .val (.int p4), .val (.long da), .second, .val (.long db), .second, .val (.int (0 : Int32)), .val (.int (1 : Int32)), .val (.ref b23), .val (.int (0 : Int32)), .val (.int s2), .val (.int s3), .val (.int (0 : Int32)), .val (.int (0 : Int32)), .unset, .unset, .unset, .unset, .unset, .unset] [(.int (0 : Int32))]))
          have hc162 : (0 : Int32) = (0 : Int32) := (by decide)
          refine Runs.by (fun _ hr => XS.ifYes X43.here hx rfl (pc0 := 162) (pc' := 174) rfl (hb hby at_162) rfl ((if0 _ _).trans (teq hc162).1) (by decide) (by decide) hr) ?_
          refine Runs.by (fun _ hr => XS.iconst X43.here hx rfl (hb hby at_174) hr) ?_
          refine Runs.by (fun _ hr => XS.istore X43.here hx rfl (hb hby at_175) rfl (l' := #[.val (.long q0), .second, .val (.long q1), .second, .val (.int p2), .val (.int p3), .val (.int p4), .val (.long da), .second, .val (.long db), .second, .val (.int (0 : Int32)), .val (.int (1 : Int32)), .val (.ref b23), .val (.int (0 : Int32)), .val (.int s2), .val (.int s3), .val (.int (0 : Int32)), .val (.int (0 : Int32)), .val (.int (0 : Int32)), .unset, .unset, .unset, .unset, .unset]) rfl hr) ?_
          show Runs p e below _ (T43.setTop (mkF m 177 #[.val (.long q0), .second, .val (.long q1), .second, .val (.int p2), .val (.int p3), .val (.int p4), .val (.long da), .second, .val (.long db), .second, .val (.int (0 : Int32)), .val (.int (1 : Int32)), .val (.ref b23), .val (.int (0 : Int32)), .val (.int s2), .val (.int s3), .val (.int (0 : Int32)), .val (.int (0 : Int32)), .val (.int (0 : Int32)), .unset, .unset, .unset, .unset, .unset] []))
          refine Runs.by (fun _ hr => XS.iload X43.here hx rfl (hb hby at_177) rfl  hr) ?_
          have hc179 : (0 : Int32) = (0 : Int32) := (by decide)
          refine Runs.by (fun _ hr => XS.ifYes X43.here hx rfl (pc0 := 179) (pc' := 248) rfl (hb hby at_179) rfl ((if0 _ _).trans (teq hc179).1) (by decide) (by decide) hr) ?_
          refine Runs.by (fun _ hr => XS.iload X43.here hx rfl (hb hby at_248) rfl  hr) ?_
          show Runs p e below _ (T43.setTop (mkF m 250 #[.val (.long q0), .second, .val (.long q1), .second, .val (.int p2), .val (.int p3), .val (.int p4), .val (.long da), .second, .val (.long db), .second, .val (.int (0 : Int32)), .val (.int (1 : Int32)), .val (.ref b23), .val (.int (0 : Int32)), .val (.int s2), .val (.int s3), .val (.int (0 : Int32)), .val (.int (0 : Int32)), .val (.int (0 : Int32)), .unset, .unset, .unset, .unset, .unset] [(.int (0 : Int32))]))
          have hc250 : (0 : Int32) = (0 : Int32) := (by decide)
          refine Runs.by (fun _ hr => XS.ifYes X43.here hx rfl (pc0 := 250) (pc' := 258) rfl (hb hby at_250) rfl ((if0 _ _).trans (teq hc250).1) (by decide) (by decide) hr) ?_
          refine Runs.by (fun _ hr => XS.iload X43.here hx rfl (hb hby at_258) rfl  hr) ?_
          have hc260 : (0 : Int32) = (0 : Int32) := (by decide)
          refine Runs.by (fun _ hr => XS.ifYes X43.here hx rfl (pc0 := 260) (pc' := 272) rfl (hb hby at_260) rfl ((if0 _ _).trans (teq hc260).1) (by decide) (by decide) hr) ?_
          show Runs p e below _ (T43.setTop (mkF m 272 #[.val (.long q0), .second, .val (.long q1), .second, .val (.int p2), .val (.int p3), .val (.int p4), .val (.long da), .second, .val (.long db), .second, .val (.int (0 : Int32)), .val (.int (1 : Int32)), .val (.ref b23), .val (.int (0 : Int32)), .val (.int s2), .val (.int s3), .val (.int (0 : Int32)), .val (.int (0 : Int32)), .val (.int (0 : Int32)), .unset, .unset, .unset, .unset, .unset] []))
          refine Runs.by (fun _ hr => XS.iconst X43.here hx rfl (hb hby at_272) hr) ?_
          refine Runs.by (fun _ hr => XS.istore X43.here hx rfl (hb hby at_273) rfl (l' := #[.val (.long q0), .second, .val (.long q1), .second, .val (.int p2), .val (.int p3), .val (.int p4), .val (.long da), .second, .val (.long db), .second, .val (.int (0 : Int32)), .val (.int (1 : Int32)), .val (.ref b23), .val (.int (0 : Int32)), .val (.int s2), .val (.int s3), .val (.int (0 : Int32)), .val (.int (0 : Int32)), .val (.int (0 : Int32)), .val (.int (0 : Int32)), .unset, .unset, .unset, .unset]) rfl hr) ?_
          refine Runs.by (fun _ hr => XS.iload X43.here hx rfl (hb hby at_275) rfl  hr) ?_
          show Runs p e below _ (T43.setTop (mkF m 277 #[.val (.long q0), .second, .val (.long q1), .second, .val (.int p2), .val (.int p3), .val (.int p4), .val (.long da), .second, .val (.long db), .second, .val (.int (0 : Int32)), .val (.int (1 : Int32)), .val (.ref b23), .val (.int (0 : Int32)), .val (.int s2), .val (.int s3), .val (.int (0 : Int32)), .val (.int (0 : Int32)), .val (.int (0 : Int32)), .val (.int (0 : Int32)), .unset, .unset, .unset, .unset] [(.int (0 : Int32))]))
          have hc277 : (0 : Int32) = (0 : Int32) := (by decide)
          refine Runs.by (fun _ hr => XS.ifNo X43.here hx rfl (hb hby at_277) rfl ((if0 _ _).trans (teq hc277).2) hr) ?_
          refine Runs.by (fun _ hr => XS.iload X43.here hx rfl (hb hby at_280) rfl  hr) ?_
          refine Runs.by (fun _ hr => XS.iload X43.here hx rfl (hb hby at_282) rfl  hr) ?_
          show Runs p e below _ (T43.setTop (mkF m 284 #[.val (.long q0), .second, .val (.long q1), .second, .val (.int p2), .val (.int p3), .val (.int p4), .val (.long da), .second, .val (.long db), .second, .val (.int (0 : Int32)), .val (.int (1 : Int32)), .val (.ref b23), .val (.int (0 : Int32)), .val (.int s2), .val (.int s3), .val (.int (0 : Int32)), .val (.int (0 : Int32)), .val (.int (0 : Int32)), .val (.int (0 : Int32)), .unset, .unset, .unset, .unset] [(.int (0 : Int32)), (.int s2)]))
          have hc284 : s2 = (0 : Int32) := (by simp [hs2, zD1])
          refine Runs.by (fun _ hr => XS.icmpNo X43.here hx rfl (hb hby at_284) rfl (teq hc284).2 hr) ?_
          refine Runs.by (fun _ hr => XS.iload X43.here hx rfl (hb hby at_287) rfl  hr) ?_
          refine Runs.by (fun _ hr => XS.iload X43.here hx rfl (hb hby at_289) rfl  hr) ?_
          show Runs p e below _ (T43.setTop (mkF m 291 #[.val (.long q0), .second, .val (.long q1), .second, .val (.int p2), .val (.int p3), .val (.int p4), .val (.long da), .second, .val (.long db), .second, .val (.int (0 : Int32)), .val (.int (1 : Int32)), .val (.ref b23), .val (.int (0 : Int32)), .val (.int s2), .val (.int s3), .val (.int (0 : Int32)), .val (.int (0 : Int32)), .val (.int (0 : Int32)), .val (.int (0 : Int32)), .unset, .unset, .unset, .unset] [(.int (0 : Int32)), (.int s3)]))
          have hc291 : s3 = (0 : Int32) := (by simp [hs3, zD1, zD2])
          refine Runs.by (fun _ hr => XS.icmpNo X43.here hx rfl (hb hby at_291) rfl (teq hc291).2 hr) ?_
          refine Runs.by (fun _ hr => XS.iconst X43.here hx rfl (hb hby at_294) hr) ?_
          refine Runs.by (fun _ hr => XS.goto X43.here hx rfl (pc0 := 295) (pc' := 299) rfl (hb hby at_295) (by decide) (by decide) hr) ?_
          show Runs p e below _ (T43.setTop (mkF m 299 #[.val (.long q0), .second, .val (.long q1), .second, .val (.int p2), .val (.int p3), .val (.int p4), .val (.long da), .second, .val (.long db), .second, .val (.int (0 : Int32)), .val (.int (1 : Int32)), .val (.ref b23), .val (.int (0 : Int32)), .val (.int s2), .val (.int s3), .val (.int (0 : Int32)), .val (.int (0 : Int32)), .val (.int (0 : Int32)), .val (.int (0 : Int32)), .unset, .unset, .unset, .unset] [(.int (1 : Int32))]))
          refine Runs.ret X43 hx hrt hlk (Or.inl ⟨rfl, by simp, _, rfl⟩) (by rfl) (hb hby at_299) (by decide) (by decide) ?_
          exact ⟨rfl, N43⟩
        · -- pc 143: not (lcmpW q1 (0 : Int64)) = (0 : Int32)
          refine Runs.by (fun _ hr => XS.ifNo X43.here hx rfl (hb hby at_143) rfl ((if0 _ _).trans (feq hc143).1) hr) ?_
          show Runs p e below _ (T43.setTop (mkF m 146 #[.val (.long q0), .second, .val (.long q1), .second, .val (.int p2), .val (.int p3), .val (.int p4), .val (.long da), .second, .val (.long db), .second, .val (.int (0 : Int32)), .val (.int (1 : Int32)), .val (.ref b23), .val (.int (0 : Int32)), .val (.int s2), .val (.int s3), .val (.int (0 : Int32)), .unset, .unset, .unset, .unset, .unset, .unset, .unset] []))
          refine Runs.by (fun _ hr => XS.lload X43.here hx rfl (hb hby at_146) rfl  hr) ?_
          refine Runs.by (fun _ hr => XS.lconst X43.here hx rfl (hb hby at_148) hr) ?_
          refine Runs.by (fun _ hr => XS.lcmp X43.here hx rfl (hb hby at_149) rfl hr) ?_
          show Runs p e below _ (T43.setTop (mkF m 150 #[.val (.long q0), .second, .val (.long q1), .second, .val (.int p2), .val (.int p3), .val (.int p4), .val (.long da), .second, .val (.long db), .second, .val (.int (0 : Int32)), .val (.int (1 : Int32)), .val (.ref b23), .val (.int (0 : Int32)), .val (.int s2), .val (.int s3), .val (.int (0 : Int32)), .unset, .unset, .unset, .unset, .unset, .unset, .unset] [(.int (lcmpW db (0 : Int64)))]))
          by_cases hc150 : (lcmpW db (0 : Int64)) = (0 : Int32)
          · -- pc 150: (lcmpW db (0 : Int64)) = (0 : Int32)
            refine Runs.by (fun _ hr => XS.ifYes X43.here hx rfl (pc0 := 150) (pc' := 157) rfl (hb hby at_150) rfl ((if0 _ _).trans (teq hc150).1) (by decide) (by decide) hr) ?_
            refine Runs.by (fun _ hr => XS.iconst X43.here hx rfl (hb hby at_157) hr) ?_
            refine Runs.by (fun _ hr => XS.istore X43.here hx rfl (hb hby at_158) rfl (l' := #[.val (.long q0), .second, .val (.long q1), .second, .val (.int p2), .val (.int p3), .val (.int p4), .val (.long da), .second, .val (.long db), .second, .val (.int (0 : Int32)), .val (.int (1 : Int32)), .val (.ref b23), .val (.int (0 : Int32)), .val (.int s2), .val (.int s3), .val (.int (0 : Int32)), .val (.int (0 : Int32)), .unset, .unset, .unset, .unset, .unset, .unset]) rfl hr) ?_
            have zD2 : own_D q1 db = 0 := own_Dz2 (own_lcz.mp hc150)
            show Runs p e below _ (T43.setTop (mkF m 160 #[.val (.long q0), .second, .val (.long q1), .second, .val (.int p2), .val (.int p3), .val (.int p4), .val (.long da), .second, .val (.long db), .second, .val (.int (0 : Int32)), .val (.int (1 : Int32)), .val (.ref b23), .val (.int (0 : Int32)), .val (.int s2), .val (.int s3), .val (.int (0 : Int32)), .val (.int (0 : Int32)), .unset, .unset, .unset, .unset, .unset, .unset] []))
            refine Runs.by (fun _ hr => XS.iload X43.here hx rfl (hb hby at_160) rfl  hr) ?_
            have hc162 : (0 : Int32) = (0 : Int32) := (by decide)
            refine Runs.by (fun _ hr => XS.ifYes X43.here hx rfl (pc0 := 162) (pc' := 174) rfl (hb hby at_162) rfl ((if0 _ _).trans (teq hc162).1) (by decide) (by decide) hr) ?_
            refine Runs.by (fun _ hr => XS.iconst X43.here hx rfl (hb hby at_174) hr) ?_
            show Runs p e below _ (T43.setTop (mkF m 175 #[.val (.long q0), .second, .val (.long q1), .second, .val (.int p2), .val (.int p3), .val (.int p4), .val (.long da), .second, .val (.long db), .second, .val (.int (0 : Int32)), .val (.int (1 : Int32)), .val (.ref b23), .val (.int (0 : Int32)), .val (.int s2), .val (.int s3), .val (.int (0 : Int32)), .val (.int (0 : Int32)), .unset, .unset, .unset, .unset, .unset, .unset] [(.int (0 : Int32))]))
            refine Runs.by (fun _ hr => XS.istore X43.here hx rfl (hb hby at_175) rfl (l' := #[.val (.long q0), .second, .val (.long q1), .second, .val (.int p2), .val (.int p3), .val (.int p4), .val (.long da), .second, .val (.long db), .second, .val (.int (0 : Int32)), .val (.int (1 : Int32)), .val (.ref b23), .val (.int (0 : Int32)), .val (.int s2), .val (.int s3), .val (.int (0 : Int32)), .val (.int (0 : Int32)), .val (.int (0 : Int32)), .unset, .unset, .unset, .unset, .unset]) rfl hr) ?_
            refine Runs.by (fun _ hr => XS.iload X43.here hx rfl (hb hby at_177) rfl  hr) ?_
            have hc179 : (0 : Int32) = (0 : Int32) := (by decide)
            refine Runs.by (fun _ hr => XS.ifYes X43.here hx rfl (pc0 := 179) (pc' := 248) rfl (hb hby at_179) rfl ((if0 _ _).trans (teq hc179).1) (by decide) (by decide) hr) ?_
            show Runs p e below _ (T43.setTop (mkF m 248 #[.val (.long q0), .second, .val (.long q1), .second, .val (.int p2), .val (.int p3), .val (.int p4), .val (.long da), .second, .val (.long db), .second, .val (.int (0 : Int32)), .val (.int (1 : Int32)), .val (.ref b23), .val (.int (0 : Int32)), .val (.int s2), .val (.int s3), .val (.int (0 : Int32)), .val (.int (0 : Int32)), .val (.int (0 : Int32)), .unset, .unset, .unset, .unset, .unset] []))
            refine Runs.by (fun _ hr => XS.iload X43.here hx rfl (hb hby at_248) rfl  hr) ?_
            have hc250 : (0 : Int32) = (0 : Int32) := (by decide)
            refine Runs.by (fun _ hr => XS.ifYes X43.here hx rfl (pc0 := 250) (pc' := 258) rfl (hb hby at_250) rfl ((if0 _ _).trans (teq hc250).1) (by decide) (by decide) hr) ?_
            refine Runs.by (fun _ hr => XS.iload X43.here hx rfl (hb hby at_258) rfl  hr) ?_
            show Runs p e below _ (T43.setTop (mkF m 260 #[.val (.long q0), .second, .val (.long q1), .second, .val (.int p2), .val (.int p3), .val (.int p4), .val (.long da), .second, .val (.long db), .second, .val (.int (0 : Int32)), .val (.int (1 : Int32)), .val (.ref b23), .val (.int (0 : Int32)), .val (.int s2), .val (.int s3), .val (.int (0 : Int32)), .val (.int (0 : Int32)), .val (.int (0 : Int32)), .unset, .unset, .unset, .unset, .unset] [(.int (0 : Int32))]))
            have hc260 : (0 : Int32) = (0 : Int32) := (by decide)
            refine Runs.by (fun _ hr => XS.ifYes X43.here hx rfl (pc0 := 260) (pc' := 272) rfl (hb hby at_260) rfl ((if0 _ _).trans (teq hc260).1) (by decide) (by decide) hr) ?_
            refine Runs.by (fun _ hr => XS.iconst X43.here hx rfl (hb hby at_272) hr) ?_
            refine Runs.by (fun _ hr => XS.istore X43.here hx rfl (hb hby at_273) rfl (l' := #[.val (.long q0), .second, .val (.long q1), .second, .val (.int p2), .val (.int p3), .val (.int p4), .val (.long da), .second, .val (.long db), .second, .val (.int (0 : Int32)), .val (.int (1 : Int32)), .val (.ref b23), .val (.int (0 : Int32)), .val (.int s2), .val (.int s3), .val (.int (0 : Int32)), .val (.int (0 : Int32)), .val (.int (0 : Int32)), .val (.int (0 : Int32)), .unset, .unset, .unset, .unset]) rfl hr) ?_
            show Runs p e below _ (T43.setTop (mkF m 275 #[.val (.long q0), .second, .val (.long q1), .second, .val (.int p2), .val (.int p3), .val (.int p4), .val (.long da), .second, .val (.long db), .second, .val (.int (0 : Int32)), .val (.int (1 : Int32)), .val (.ref b23), .val (.int (0 : Int32)), .val (.int s2), .val (.int s3), .val (.int (0 : Int32)), .val (.int (0 : Int32)), .val (.int (0 : Int32)), .val (.int (0 : Int32)), .unset, .unset, .unset, .unset] []))
            refine Runs.by (fun _ hr => XS.iload X43.here hx rfl (hb hby at_275) rfl  hr) ?_
            have hc277 : (0 : Int32) = (0 : Int32) := (by decide)
            refine Runs.by (fun _ hr => XS.ifNo X43.here hx rfl (hb hby at_277) rfl ((if0 _ _).trans (teq hc277).2) hr) ?_
            refine Runs.by (fun _ hr => XS.iload X43.here hx rfl (hb hby at_280) rfl  hr) ?_
            show Runs p e below _ (T43.setTop (mkF m 282 #[.val (.long q0), .second, .val (.long q1), .second, .val (.int p2), .val (.int p3), .val (.int p4), .val (.long da), .second, .val (.long db), .second, .val (.int (0 : Int32)), .val (.int (1 : Int32)), .val (.ref b23), .val (.int (0 : Int32)), .val (.int s2), .val (.int s3), .val (.int (0 : Int32)), .val (.int (0 : Int32)), .val (.int (0 : Int32)), .val (.int (0 : Int32)), .unset, .unset, .unset, .unset] [(.int s2)]))
            refine Runs.by (fun _ hr => XS.iload X43.here hx rfl (hb hby at_282) rfl  hr) ?_
            have hc284 : s2 = (0 : Int32) := (by simp [hs2, zD1])
            refine Runs.by (fun _ hr => XS.icmpNo X43.here hx rfl (hb hby at_284) rfl (teq hc284).2 hr) ?_
            refine Runs.by (fun _ hr => XS.iload X43.here hx rfl (hb hby at_287) rfl  hr) ?_
            show Runs p e below _ (T43.setTop (mkF m 289 #[.val (.long q0), .second, .val (.long q1), .second, .val (.int p2), .val (.int p3), .val (.int p4), .val (.long da), .second, .val (.long db), .second, .val (.int (0 : Int32)), .val (.int (1 : Int32)), .val (.ref b23), .val (.int (0 : Int32)), .val (.int s2), .val (.int s3), .val (.int (0 : Int32)), .val (.int (0 : Int32)), .val (.int (0 : Int32)), .val (.int (0 : Int32)), .unset, .unset, .unset, .unset] [(.int s3)]))
            refine Runs.by (fun _ hr => XS.iload X43.here hx rfl (hb hby at_289) rfl  hr) ?_
            have hc291 : s3 = (0 : Int32) := (by simp [hs3, zD1, zD2])
            refine Runs.by (fun _ hr => XS.icmpNo X43.here hx rfl (hb hby at_291) rfl (teq hc291).2 hr) ?_
            refine Runs.by (fun _ hr => XS.iconst X43.here hx rfl (hb hby at_294) hr) ?_
            show Runs p e below _ (T43.setTop (mkF m 295 #[.val (.long q0), .second, .val (.long q1), .second, .val (.int p2), .val (.int p3), .val (.int p4), .val (.long da), .second, .val (.long db), .second, .val (.int (0 : Int32)), .val (.int (1 : Int32)), .val (.ref b23), .val (.int (0 : Int32)), .val (.int s2), .val (.int s3), .val (.int (0 : Int32)), .val (.int (0 : Int32)), .val (.int (0 : Int32)), .val (.int (0 : Int32)), .unset, .unset, .unset, .unset] [(.int (1 : Int32))]))
            refine Runs.by (fun _ hr => XS.goto X43.here hx rfl (pc0 := 295) (pc' := 299) rfl (hb hby at_295) (by decide) (by decide) hr) ?_
            show Runs p e below _ (T43.setTop (mkF m 299 #[.val (.long q0), .second, .val (.long q1), .second, .val (.int p2), .val (.int p3), .val (.int p4), .val (.long da), .second, .val (.long db), .second, .val (.int (0 : Int32)), .val (.int (1 : Int32)), .val (.ref b23), .val (.int (0 : Int32)), .val (.int s2), .val (.int s3), .val (.int (0 : Int32)), .val (.int (0 : Int32)), .val (.int (0 : Int32)), .val (.int (0 : Int32)), .unset, .unset, .unset, .unset] [(.int (1 : Int32))]))
            refine Runs.ret X43 hx hrt hlk (Or.inl ⟨rfl, by simp, _, rfl⟩) (by rfl) (hb hby at_299) (by decide) (by decide) ?_
            exact ⟨rfl, N43⟩
          · -- pc 150: not (lcmpW db (0 : Int64)) = (0 : Int32)
            refine Runs.by (fun _ hr => XS.ifNo X43.here hx rfl (hb hby at_150) rfl ((if0 _ _).trans (feq hc150).1) hr) ?_
            refine Runs.by (fun _ hr => XS.iconst X43.here hx rfl (hb hby at_153) hr) ?_
            refine Runs.by (fun _ hr => XS.goto X43.here hx rfl (pc0 := 154) (pc' := 158) rfl (hb hby at_154) (by decide) (by decide) hr) ?_
            show Runs p e below _ (T43.setTop (mkF m 158 #[.val (.long q0), .second, .val (.long q1), .second, .val (.int p2), .val (.int p3), .val (.int p4), .val (.long da), .second, .val (.long db), .second, .val (.int (0 : Int32)), .val (.int (1 : Int32)), .val (.ref b23), .val (.int (0 : Int32)), .val (.int s2), .val (.int s3), .val (.int (0 : Int32)), .unset, .unset, .unset, .unset, .unset, .unset, .unset] [(.int (1 : Int32))]))
            refine Runs.by (fun _ hr => XS.istore X43.here hx rfl (hb hby at_158) rfl (l' := #[.val (.long q0), .second, .val (.long q1), .second, .val (.int p2), .val (.int p3), .val (.int p4), .val (.long da), .second, .val (.long db), .second, .val (.int (0 : Int32)), .val (.int (1 : Int32)), .val (.ref b23), .val (.int (0 : Int32)), .val (.int s2), .val (.int s3), .val (.int (0 : Int32)), .val (.int (1 : Int32)), .unset, .unset, .unset, .unset, .unset, .unset]) rfl hr) ?_
            have zD2 : own_D q1 db = db := own_Dn (fun z => hc143 (own_lcz.mpr z))
            have nD2 : ¬ db = 0 := fun z => hc150 (own_lcz.mpr z)
            refine Runs.by (fun _ hr => XS.iload X43.here hx rfl (hb hby at_160) rfl  hr) ?_
            have hc162 : (0 : Int32) = (0 : Int32) := (by decide)
            refine Runs.by (fun _ hr => XS.ifYes X43.here hx rfl (pc0 := 162) (pc' := 174) rfl (hb hby at_162) rfl ((if0 _ _).trans (teq hc162).1) (by decide) (by decide) hr) ?_
            show Runs p e below _ (T43.setTop (mkF m 174 #[.val (.long q0), .second, .val (.long q1), .second, .val (.int p2), .val (.int p3), .val (.int p4), .val (.long da), .second, .val (.long db), .second, .val (.int (0 : Int32)), .val (.int (1 : Int32)), .val (.ref b23), .val (.int (0 : Int32)), .val (.int s2), .val (.int s3), .val (.int (0 : Int32)), .val (.int (1 : Int32)), .unset, .unset, .unset, .unset, .unset, .unset] []))
            refine Runs.by (fun _ hr => XS.iconst X43.here hx rfl (hb hby at_174) hr) ?_
            refine Runs.by (fun _ hr => XS.istore X43.here hx rfl (hb hby at_175) rfl (l' := #[.val (.long q0), .second, .val (.long q1), .second, .val (.int p2), .val (.int p3), .val (.int p4), .val (.long da), .second, .val (.long db), .second, .val (.int (0 : Int32)), .val (.int (1 : Int32)), .val (.ref b23), .val (.int (0 : Int32)), .val (.int s2), .val (.int s3), .val (.int (0 : Int32)), .val (.int (1 : Int32)), .val (.int (0 : Int32)), .unset, .unset, .unset, .unset, .unset]) rfl hr) ?_
            refine Runs.by (fun _ hr => XS.iload X43.here hx rfl (hb hby at_177) rfl  hr) ?_
            show Runs p e below _ (T43.setTop (mkF m 179 #[.val (.long q0), .second, .val (.long q1), .second, .val (.int p2), .val (.int p3), .val (.int p4), .val (.long da), .second, .val (.long db), .second, .val (.int (0 : Int32)), .val (.int (1 : Int32)), .val (.ref b23), .val (.int (0 : Int32)), .val (.int s2), .val (.int s3), .val (.int (0 : Int32)), .val (.int (1 : Int32)), .val (.int (0 : Int32)), .unset, .unset, .unset, .unset, .unset] [(.int (0 : Int32))]))
            have hc179 : (0 : Int32) = (0 : Int32) := (by decide)
            refine Runs.by (fun _ hr => XS.ifYes X43.here hx rfl (pc0 := 179) (pc' := 248) rfl (hb hby at_179) rfl ((if0 _ _).trans (teq hc179).1) (by decide) (by decide) hr) ?_
            refine Runs.by (fun _ hr => XS.iload X43.here hx rfl (hb hby at_248) rfl  hr) ?_
            have hc250 : (0 : Int32) = (0 : Int32) := (by decide)
            refine Runs.by (fun _ hr => XS.ifYes X43.here hx rfl (pc0 := 250) (pc' := 258) rfl (hb hby at_250) rfl ((if0 _ _).trans (teq hc250).1) (by decide) (by decide) hr) ?_
            show Runs p e below _ (T43.setTop (mkF m 258 #[.val (.long q0), .second, .val (.long q1), .second, .val (.int p2), .val (.int p3), .val (.int p4), .val (.long da), .second, .val (.long db), .second, .val (.int (0 : Int32)), .val (.int (1 : Int32)), .val (.ref b23), .val (.int (0 : Int32)), .val (.int s2), .val (.int s3), .val (.int (0 : Int32)), .val (.int (1 : Int32)), .val (.int (0 : Int32)), .unset, .unset, .unset, .unset, .unset] []))
            refine Runs.by (fun _ hr => XS.iload X43.here hx rfl (hb hby at_258) rfl  hr) ?_
            have hc260 : ¬ ((1 : Int32) = (0 : Int32)) := (by decide)
            refine Runs.by (fun _ hr => XS.ifNo X43.here hx rfl (hb hby at_260) rfl ((if0 _ _).trans (feq hc260).1) hr) ?_
            refine Runs.by (fun _ hr => XS.iload X43.here hx rfl (hb hby at_263) rfl  hr) ?_
            show Runs p e below _ (T43.setTop (mkF m 265 #[.val (.long q0), .second, .val (.long q1), .second, .val (.int p2), .val (.int p3), .val (.int p4), .val (.long da), .second, .val (.long db), .second, .val (.int (0 : Int32)), .val (.int (1 : Int32)), .val (.ref b23), .val (.int (0 : Int32)), .val (.int s2), .val (.int s3), .val (.int (0 : Int32)), .val (.int (1 : Int32)), .val (.int (0 : Int32)), .unset, .unset, .unset, .unset, .unset] [(.int (1 : Int32))]))
            have hc265 : ¬ ((1 : Int32) = (0 : Int32)) := (by decide)
            refine Runs.by (fun _ hr => XS.ifYes X43.here hx rfl (pc0 := 265) (pc' := 272) rfl (hb hby at_265) rfl ((if0 _ _).trans (feq hc265).2) (by decide) (by decide) hr) ?_
            refine Runs.by (fun _ hr => XS.iconst X43.here hx rfl (hb hby at_272) hr) ?_
            refine Runs.by (fun _ hr => XS.istore X43.here hx rfl (hb hby at_273) rfl (l' := #[.val (.long q0), .second, .val (.long q1), .second, .val (.int p2), .val (.int p3), .val (.int p4), .val (.long da), .second, .val (.long db), .second, .val (.int (0 : Int32)), .val (.int (1 : Int32)), .val (.ref b23), .val (.int (0 : Int32)), .val (.int s2), .val (.int s3), .val (.int (0 : Int32)), .val (.int (1 : Int32)), .val (.int (0 : Int32)), .val (.int (0 : Int32)), .unset, .unset, .unset, .unset]) rfl hr) ?_
            show Runs p e below _ (T43.setTop (mkF m 275 #[.val (.long q0), .second, .val (.long q1), .second, .val (.int p2), .val (.int p3), .val (.int p4), .val (.long da), .second, .val (.long db), .second, .val (.int (0 : Int32)), .val (.int (1 : Int32)), .val (.ref b23), .val (.int (0 : Int32)), .val (.int s2), .val (.int s3), .val (.int (0 : Int32)), .val (.int (1 : Int32)), .val (.int (0 : Int32)), .val (.int (0 : Int32)), .unset, .unset, .unset, .unset] []))
            refine Runs.by (fun _ hr => XS.iload X43.here hx rfl (hb hby at_275) rfl  hr) ?_
            have hc277 : (0 : Int32) = (0 : Int32) := (by decide)
            refine Runs.by (fun _ hr => XS.ifNo X43.here hx rfl (hb hby at_277) rfl ((if0 _ _).trans (teq hc277).2) hr) ?_
            refine Runs.by (fun _ hr => XS.iload X43.here hx rfl (hb hby at_280) rfl  hr) ?_
            show Runs p e below _ (T43.setTop (mkF m 282 #[.val (.long q0), .second, .val (.long q1), .second, .val (.int p2), .val (.int p3), .val (.int p4), .val (.long da), .second, .val (.long db), .second, .val (.int (0 : Int32)), .val (.int (1 : Int32)), .val (.ref b23), .val (.int (0 : Int32)), .val (.int s2), .val (.int s3), .val (.int (0 : Int32)), .val (.int (1 : Int32)), .val (.int (0 : Int32)), .val (.int (0 : Int32)), .unset, .unset, .unset, .unset] [(.int s2)]))
            refine Runs.by (fun _ hr => XS.iload X43.here hx rfl (hb hby at_282) rfl  hr) ?_
            have hc284 : s2 = (0 : Int32) := (by simp [hs2, zD1])
            refine Runs.by (fun _ hr => XS.icmpNo X43.here hx rfl (hb hby at_284) rfl (teq hc284).2 hr) ?_
            refine Runs.by (fun _ hr => XS.iload X43.here hx rfl (hb hby at_287) rfl  hr) ?_
            show Runs p e below _ (T43.setTop (mkF m 289 #[.val (.long q0), .second, .val (.long q1), .second, .val (.int p2), .val (.int p3), .val (.int p4), .val (.long da), .second, .val (.long db), .second, .val (.int (0 : Int32)), .val (.int (1 : Int32)), .val (.ref b23), .val (.int (0 : Int32)), .val (.int s2), .val (.int s3), .val (.int (0 : Int32)), .val (.int (1 : Int32)), .val (.int (0 : Int32)), .val (.int (0 : Int32)), .unset, .unset, .unset, .unset] [(.int s3)]))
            refine Runs.by (fun _ hr => XS.iload X43.here hx rfl (hb hby at_289) rfl  hr) ?_
            have hc291 : s3 = (0 : Int32) := (by simp [hs3, zD1, zD2, nD2])
            refine Runs.by (fun _ hr => XS.icmpNo X43.here hx rfl (hb hby at_291) rfl (teq hc291).2 hr) ?_
            refine Runs.by (fun _ hr => XS.iconst X43.here hx rfl (hb hby at_294) hr) ?_
            show Runs p e below _ (T43.setTop (mkF m 295 #[.val (.long q0), .second, .val (.long q1), .second, .val (.int p2), .val (.int p3), .val (.int p4), .val (.long da), .second, .val (.long db), .second, .val (.int (0 : Int32)), .val (.int (1 : Int32)), .val (.ref b23), .val (.int (0 : Int32)), .val (.int s2), .val (.int s3), .val (.int (0 : Int32)), .val (.int (1 : Int32)), .val (.int (0 : Int32)), .val (.int (0 : Int32)), .unset, .unset, .unset, .unset] [(.int (1 : Int32))]))
            refine Runs.by (fun _ hr => XS.goto X43.here hx rfl (pc0 := 295) (pc' := 299) rfl (hb hby at_295) (by decide) (by decide) hr) ?_
            show Runs p e below _ (T43.setTop (mkF m 299 #[.val (.long q0), .second, .val (.long q1), .second, .val (.int p2), .val (.int p3), .val (.int p4), .val (.long da), .second, .val (.long db), .second, .val (.int (0 : Int32)), .val (.int (1 : Int32)), .val (.ref b23), .val (.int (0 : Int32)), .val (.int s2), .val (.int s3), .val (.int (0 : Int32)), .val (.int (1 : Int32)), .val (.int (0 : Int32)), .val (.int (0 : Int32)), .unset, .unset, .unset, .unset] [(.int (1 : Int32))]))
            refine Runs.ret X43 hx hrt hlk (Or.inl ⟨rfl, by simp, _, rfl⟩) (by rfl) (hb hby at_299) (by decide) (by decide) ?_
            exact ⟨rfl, N43⟩
      · -- pc 123: not (lcmpW q0 (0 : Int64)) = (0 : Int32)
        refine Runs.by (fun _ hr => XS.ifNo X43.here hx rfl (hb hby at_123) rfl ((if0 _ _).trans (feq hc123).1) hr) ?_
        show Runs p e below _ (T43.setTop (mkF m 126 #[.val (.long q0), .second, .val (.long q1), .second, .val (.int p2), .val (.int p3), .val (.int p4), .val (.long da), .second, .val (.long db), .second, .val (.int (0 : Int32)), .val (.int (1 : Int32)), .val (.ref b23), .val (.int (0 : Int32)), .val (.int s2), .val (.int s3), .unset, .unset, .unset, .unset, .unset, .unset, .unset, .unset] []))
        refine Runs.by (fun _ hr => XS.lload X43.here hx rfl (hb hby at_126) rfl  hr) ?_
        refine Runs.by (fun _ hr => XS.lconst X43.here hx rfl (hb hby at_128) hr) ?_
        refine Runs.by (fun _ hr => XS.lcmp X43.here hx rfl (hb hby at_129) rfl hr) ?_
        show Runs p e below _ (T43.setTop (mkF m 130 #[.val (.long q0), .second, .val (.long q1), .second, .val (.int p2), .val (.int p3), .val (.int p4), .val (.long da), .second, .val (.long db), .second, .val (.int (0 : Int32)), .val (.int (1 : Int32)), .val (.ref b23), .val (.int (0 : Int32)), .val (.int s2), .val (.int s3), .unset, .unset, .unset, .unset, .unset, .unset, .unset, .unset] [(.int (lcmpW da (0 : Int64)))]))
        by_cases hc130 : (lcmpW da (0 : Int64)) = (0 : Int32)
        · -- pc 130: (lcmpW da (0 : Int64)) = (0 : Int32)
          refine Runs.by (fun _ hr => XS.ifYes X43.here hx rfl (pc0 := 130) (pc' := 137) rfl (hb hby at_130) rfl ((if0 _ _).trans (teq hc130).1) (by decide) (by decide) hr) ?_
          refine Runs.by (fun _ hr => XS.iconst X43.here hx rfl (hb hby at_137) hr) ?_
          refine Runs.by (fun _ hr => XS.istore X43.here hx rfl (hb hby at_138) rfl (l' := #[.val (.long q0), .second, .val (.long q1), .second, .val (.int p2), .val (.int p3), .val (.int p4), .val (.long da), .second, .val (.long db), .second, .val (.int (0 : Int32)), .val (.int (1 : Int32)), .val (.ref b23), .val (.int (0 : Int32)), .val (.int s2), .val (.int s3), .val (.int (0 : Int32)), .unset, .unset, .unset, .unset, .unset, .unset, .unset]) rfl hr) ?_
          have zD1 : own_D q0 da = 0 := own_Dz2 (own_lcz.mp hc130)
          show Runs p e below _ (T43.setTop (mkF m 140 #[.val (.long q0), .second, .val (.long q1), .second, .val (.int p2), .val (.int p3), .val (.int p4), .val (.long da), .second, .val (.long db), .second, .val (.int (0 : Int32)), .val (.int (1 : Int32)), .val (.ref b23), .val (.int (0 : Int32)), .val (.int s2), .val (.int s3), .val (.int (0 : Int32)), .unset, .unset, .unset, .unset, .unset, .unset, .unset] []))
          refine Runs.by (fun _ hr => XS.lloadN X43.here hx rfl (hb hby at_140) rfl  hr) ?_
          refine Runs.by (fun _ hr => XS.lconst X43.here hx rfl (hb hby at_141) hr) ?_
          refine Runs.by (fun _ hr => XS.lcmp X43.here hx rfl (hb hby at_142) rfl hr) ?_
          show Runs p e below _ (T43.setTop (mkF m 143 #[.val (.long q0), .second, .val (.long q1), .second, .val (.int p2), .val (.int p3), .val (.int p4), .val (.long da), .second, .val (.long db), .second, .val (.int (0 : Int32)), .val (.int (1 : Int32)), .val (.ref b23), .val (.int (0 : Int32)), .val (.int s2), .val (.int s3), .val (.int (0 : Int32)), .unset, .unset, .unset, .unset, .unset, .unset, .unset] [(.int (lcmpW q1 (0 : Int64)))]))
          by_cases hc143 : (lcmpW q1 (0 : Int64)) = (0 : Int32)
          · -- pc 143: (lcmpW q1 (0 : Int64)) = (0 : Int32)
            refine Runs.by (fun _ hr => XS.ifYes X43.here hx rfl (pc0 := 143) (pc' := 157) rfl (hb hby at_143) rfl ((if0 _ _).trans (teq hc143).1) (by decide) (by decide) hr) ?_
            refine Runs.by (fun _ hr => XS.iconst X43.here hx rfl (hb hby at_157) hr) ?_
            refine Runs.by (fun _ hr => XS.istore X43.here hx rfl (hb hby at_158) rfl (l' := #[.val (.long q0), .second, .val (.long q1), .second, .val (.int p2), .val (.int p3), .val (.int p4), .val (.long da), .second, .val (.long db), .second, .val (.int (0 : Int32)), .val (.int (1 : Int32)), .val (.ref b23), .val (.int (0 : Int32)), .val (.int s2), .val (.int s3), .val (.int (0 : Int32)), .val (.int (0 : Int32)), .unset, .unset, .unset, .unset, .unset, .unset]) rfl hr) ?_
            have zD2 : own_D q1 db = 0 := own_Dz1 (own_lcz.mp hc143)
            show Runs p e below _ (T43.setTop (mkF m 160 #[.val (.long q0), .second, .val (.long q1), .second, .val (.int p2), .val (.int p3), .val (.int p4), .val (.long da), .second, .val (.long db), .second, .val (.int (0 : Int32)), .val (.int (1 : Int32)), .val (.ref b23), .val (.int (0 : Int32)), .val (.int s2), .val (.int s3), .val (.int (0 : Int32)), .val (.int (0 : Int32)), .unset, .unset, .unset, .unset, .unset, .unset] []))
            refine Runs.by (fun _ hr => XS.iload X43.here hx rfl (hb hby at_160) rfl  hr) ?_
            have hc162 : (0 : Int32) = (0 : Int32) := (by decide)
            refine Runs.by (fun _ hr => XS.ifYes X43.here hx rfl (pc0 := 162) (pc' := 174) rfl (hb hby at_162) rfl ((if0 _ _).trans (teq hc162).1) (by decide) (by decide) hr) ?_
            refine Runs.by (fun _ hr => XS.iconst X43.here hx rfl (hb hby at_174) hr) ?_
            show Runs p e below _ (T43.setTop (mkF m 175 #[.val (.long q0), .second, .val (.long q1), .second, .val (.int p2), .val (.int p3), .val (.int p4), .val (.long da), .second, .val (.long db), .second, .val (.int (0 : Int32)), .val (.int (1 : Int32)), .val (.ref b23), .val (.int (0 : Int32)), .val (.int s2), .val (.int s3), .val (.int (0 : Int32)), .val (.int (0 : Int32)), .unset, .unset, .unset, .unset, .unset, .unset] [(.int (0 : Int32))]))
            refine Runs.by (fun _ hr => XS.istore X43.here hx rfl (hb hby at_175) rfl (l' := #[.val (.long q0), .second, .val (.long q1), .second, .val (.int p2), .val (.int p3), .val (.int p4), .val (.long da), .second, .val (.long db), .second, .val (.int (0 : Int32)), .val (.int (1 : Int32)), .val (.ref b23), .val (.int (0 : Int32)), .val (.int s2), .val (.int s3), .val (.int (0 : Int32)), .val (.int (0 : Int32)), .val (.int (0 : Int32)), .unset, .unset, .unset, .unset, .unset]) rfl hr) ?_
            refine Runs.by (fun _ hr => XS.iload X43.here hx rfl (hb hby at_177) rfl  hr) ?_
            have hc179 : (0 : Int32) = (0 : Int32) := (by decide)
            refine Runs.by (fun _ hr => XS.ifYes X43.here hx rfl (pc0 := 179) (pc' := 248) rfl (hb hby at_179) rfl ((if0 _ _).trans (teq hc179).1) (by decide) (by decide) hr) ?_
            show Runs p e below _ (T43.setTop (mkF m 248 #[.val (.long q0), .second, .val (.long q1), .second, .val (.int p2), .val (.int p3), .val (.int p4), .val (.long da), .second, .val (.long db), .second, .val (.int (0 : Int32)), .val (.int (1 : Int32)), .val (.ref b23), .val (.int (0 : Int32)), .val (.int s2), .val (.int s3), .val (.int (0 : Int32)), .val (.int (0 : Int32)), .val (.int (0 : Int32)), .unset, .unset, .unset, .unset, .unset] []))
            refine Runs.by (fun _ hr => XS.iload X43.here hx rfl (hb hby at_248) rfl  hr) ?_
            have hc250 : (0 : Int32) = (0 : Int32) := (by decide)
            refine Runs.by (fun _ hr => XS.ifYes X43.here hx rfl (pc0 := 250) (pc' := 258) rfl (hb hby at_250) rfl ((if0 _ _).trans (teq hc250).1) (by decide) (by decide) hr) ?_
            refine Runs.by (fun _ hr => XS.iload X43.here hx rfl (hb hby at_258) rfl  hr) ?_
            show Runs p e below _ (T43.setTop (mkF m 260 #[.val (.long q0), .second, .val (.long q1), .second, .val (.int p2), .val (.int p3), .val (.int p4), .val (.long da), .second, .val (.long db), .second, .val (.int (0 : Int32)), .val (.int (1 : Int32)), .val (.ref b23), .val (.int (0 : Int32)), .val (.int s2), .val (.int s3), .val (.int (0 : Int32)), .val (.int (0 : Int32)), .val (.int (0 : Int32)), .unset, .unset, .unset, .unset, .unset] [(.int (0 : Int32))]))
            have hc260 : (0 : Int32) = (0 : Int32) := (by decide)
            refine Runs.by (fun _ hr => XS.ifYes X43.here hx rfl (pc0 := 260) (pc' := 272) rfl (hb hby at_260) rfl ((if0 _ _).trans (teq hc260).1) (by decide) (by decide) hr) ?_
            refine Runs.by (fun _ hr => XS.iconst X43.here hx rfl (hb hby at_272) hr) ?_
            refine Runs.by (fun _ hr => XS.istore X43.here hx rfl (hb hby at_273) rfl (l' := #[.val (.long q0), .second, .val (.long q1), .second, .val (.int p2), .val (.int p3), .val (.int p4), .val (.long da), .second, .val (.long db), .second, .val (.int (0 : Int32)), .val (.int (1 : Int32)), .val (.ref b23), .val (.int (0 : Int32)), .val (.int s2), .val (.int s3), .val (.int (0 : Int32)), .val (.int (0 : Int32)), .val (.int (0 : Int32)), .val (.int (0 : Int32)), .unset, .unset, .unset, .unset]) rfl hr) ?_
            show Runs p e below _ (T43.setTop (mkF m 275 #[.val (.long q0), .second, .val (.long q1), .second, .val (.int p2), .val (.int p3), .val (.int p4), .val (.long da), .second, .val (.long db), .second, .val (.int (0 : Int32)), .val (.int (1 : Int32)), .val (.ref b23), .val (.int (0 : Int32)), .val (.int s2), .val (.int s3), .val (.int (0 : Int32)), .val (.int (0 : Int32)), .val (.int (0 : Int32)), .val (.int (0 : Int32)), .unset, .unset, .unset, .unset] []))
            refine Runs.by (fun _ hr => XS.iload X43.here hx rfl (hb hby at_275) rfl  hr) ?_
            have hc277 : (0 : Int32) = (0 : Int32) := (by decide)
            refine Runs.by (fun _ hr => XS.ifNo X43.here hx rfl (hb hby at_277) rfl ((if0 _ _).trans (teq hc277).2) hr) ?_
            refine Runs.by (fun _ hr => XS.iload X43.here hx rfl (hb hby at_280) rfl  hr) ?_
            show Runs p e below _ (T43.setTop (mkF m 282 #[.val (.long q0), .second, .val (.long q1), .second, .val (.int p2), .val (.int p3), .val (.int p4), .val (.long da), .second, .val (.long db), .second, .val (.int (0 : Int32)), .val (.int (1 : Int32)), .val (.ref b23), .val (.int (0 : Int32)), .val (.int s2), .val (.int s3), .val (.int (0 : Int32)), .val (.int (0 : Int32)), .val (.int (0 : Int32)), .val (.int (0 : Int32)), .unset, .unset, .unset, .unset] [(.int s2)]))
            refine Runs.by (fun _ hr => XS.iload X43.here hx rfl (hb hby at_282) rfl  hr) ?_
            have hc284 : s2 = (0 : Int32) := (by simp [hs2, zD1])
            refine Runs.by (fun _ hr => XS.icmpNo X43.here hx rfl (hb hby at_284) rfl (teq hc284).2 hr) ?_
            refine Runs.by (fun _ hr => XS.iload X43.here hx rfl (hb hby at_287) rfl  hr) ?_
            show Runs p e below _ (T43.setTop (mkF m 289 #[.val (.long q0), .second, .val (.long q1), .second, .val (.int p2), .val (.int p3), .val (.int p4), .val (.long da), .second, .val (.long db), .second, .val (.int (0 : Int32)), .val (.int (1 : Int32)), .val (.ref b23), .val (.int (0 : Int32)), .val (.int s2), .val (.int s3), .val (.int (0 : Int32)), .val (.int (0 : Int32)), .val (.int (0 : Int32)), .val (.int (0 : Int32)), .unset, .unset, .unset, .unset] [(.int s3)]))
            refine Runs.by (fun _ hr => XS.iload X43.here hx rfl (hb hby at_289) rfl  hr) ?_
            have hc291 : s3 = (0 : Int32) := (by simp [hs3, zD1, zD2])
            refine Runs.by (fun _ hr => XS.icmpNo X43.here hx rfl (hb hby at_291) rfl (teq hc291).2 hr) ?_
            refine Runs.by (fun _ hr => XS.iconst X43.here hx rfl (hb hby at_294) hr) ?_
            show Runs p e below _ (T43.setTop (mkF m 295 #[.val (.long q0), .second, .val (.long q1), .second, .val (.int p2), .val (.int p3), .val (.int p4), .val (.long da), .second, .val (.long db), .second, .val (.int (0 : Int32)), .val (.int (1 : Int32)), .val (.ref b23), .val (.int (0 : Int32)), .val (.int s2), .val (.int s3), .val (.int (0 : Int32)), .val (.int (0 : Int32)), .val (.int (0 : Int32)), .val (.int (0 : Int32)), .unset, .unset, .unset, .unset] [(.int (1 : Int32))]))
            refine Runs.by (fun _ hr => XS.goto X43.here hx rfl (pc0 := 295) (pc' := 299) rfl (hb hby at_295) (by decide) (by decide) hr) ?_
            show Runs p e below _ (T43.setTop (mkF m 299 #[.val (.long q0), .second, .val (.long q1), .second, .val (.int p2), .val (.int p3), .val (.int p4), .val (.long da), .second, .val (.long db), .second, .val (.int (0 : Int32)), .val (.int (1 : Int32)), .val (.ref b23), .val (.int (0 : Int32)), .val (.int s2), .val (.int s3), .val (.int (0 : Int32)), .val (.int (0 : Int32)), .val (.int (0 : Int32)), .val (.int (0 : Int32)), .unset, .unset, .unset, .unset] [(.int (1 : Int32))]))
            refine Runs.ret X43 hx hrt hlk (Or.inl ⟨rfl, by simp, _, rfl⟩) (by rfl) (hb hby at_299) (by decide) (by decide) ?_
            exact ⟨rfl, N43⟩
          · -- pc 143: not (lcmpW q1 (0 : Int64)) = (0 : Int32)
            refine Runs.by (fun _ hr => XS.ifNo X43.here hx rfl (hb hby at_143) rfl ((if0 _ _).trans (feq hc143).1) hr) ?_
            refine Runs.by (fun _ hr => XS.lload X43.here hx rfl (hb hby at_146) rfl  hr) ?_
            refine Runs.by (fun _ hr => XS.lconst X43.here hx rfl (hb hby at_148) hr) ?_
            show Runs p e below _ (T43.setTop (mkF m 149 #[.val (.long q0), .second, .val (.long q1), .second, .val (.int p2), .val (.int p3), .val (.int p4), .val (.long da), .second, .val (.long db), .second, .val (.int (0 : Int32)), .val (.int (1 : Int32)), .val (.ref b23), .val (.int (0 : Int32)), .val (.int s2), .val (.int s3), .val (.int (0 : Int32)), .unset, .unset, .unset, .unset, .unset, .unset, .unset] [(.long (0 : Int64)), (.long db)]))
            refine Runs.by (fun _ hr => XS.lcmp X43.here hx rfl (hb hby at_149) rfl hr) ?_
            by_cases hc150 : (lcmpW db (0 : Int64)) = (0 : Int32)
            · -- pc 150: (lcmpW db (0 : Int64)) = (0 : Int32)
              refine Runs.by (fun _ hr => XS.ifYes X43.here hx rfl (pc0 := 150) (pc' := 157) rfl (hb hby at_150) rfl ((if0 _ _).trans (teq hc150).1) (by decide) (by decide) hr) ?_
              refine Runs.by (fun _ hr => XS.iconst X43.here hx rfl (hb hby at_157) hr) ?_
              show Runs p e below _ (T43.setTop (mkF m 158 #[.val (.long q0), .second, .val (.long q1), .second, .val (.int p2), .val (.int p3), .val (.int p4), .val (.long da), .second, .val (.long db), .second, .val (.int (0 : Int32)), .val (.int (1 : Int32)), .val (.ref b23), .val (.int (0 : Int32)), .val (.int s2), .val (.int s3), .val (.int (0 : Int32)), .unset, .unset, .unset, .unset, .unset, .unset, .unset] [(.int (0 : Int32))]))
              refine Runs.by (fun _ hr => XS.istore X43.here hx rfl (hb hby at_158) rfl (l' := #[.val (.long q0), .second, .val (.long q1), .second, .val (.int p2), .val (.int p3), .val (.int p4), .val (.long da), .second, .val (.long db), .second, .val (.int (0 : Int32)), .val (.int (1 : Int32)), .val (.ref b23), .val (.int (0 : Int32)), .val (.int s2), .val (.int s3), .val (.int (0 : Int32)), .val (.int (0 : Int32)), .unset, .unset, .unset, .unset, .unset, .unset]) rfl hr) ?_
              have zD2 : own_D q1 db = 0 := own_Dz2 (own_lcz.mp hc150)
              refine Runs.by (fun _ hr => XS.iload X43.here hx rfl (hb hby at_160) rfl  hr) ?_
              have hc162 : (0 : Int32) = (0 : Int32) := (by decide)
              refine Runs.by (fun _ hr => XS.ifYes X43.here hx rfl (pc0 := 162) (pc' := 174) rfl (hb hby at_162) rfl ((if0 _ _).trans (teq hc162).1) (by decide) (by decide) hr) ?_
              show Runs p e below _ (T43.setTop (mkF m 174 #[.val (.long q0), .second, .val (.long q1), .second, .val (.int p2), .val (.int p3), .val (.int p4), .val (.long da), .second, .val (.long db), .second, .val (.int (0 : Int32)), .val (.int (1 : Int32)), .val (.ref b23), .val (.int (0 : Int32)), .val (.int s2), .val (.int s3), .val (.int (0 : Int32)), .val (.int (0 : Int32)), .unset, .unset, .unset, .unset, .unset, .unset] []))
              refine Runs.by (fun _ hr => XS.iconst X43.here hx rfl (hb hby at_174) hr) ?_
              refine Runs.by (fun _ hr => XS.istore X43.here hx rfl (hb hby at_175) rfl (l' := #[.val (.long q0), .second, .val (.long q1), .second, .val (.int p2), .val (.int p3), .val (.int p4), .val (.long da), .second, .val (.long db), .second, .val (.int (0 : Int32)), .val (.int (1 : Int32)), .val (.ref b23), .val (.int (0 : Int32)), .val (.int s2), .val (.int s3), .val (.int (0 : Int32)), .val (.int (0 : Int32)), .val (.int (0 : Int32)), .unset, .unset, .unset, .unset, .unset]) rfl hr) ?_
              refine Runs.by (fun _ hr => XS.iload X43.here hx rfl (hb hby at_177) rfl  hr) ?_
              show Runs p e below _ (T43.setTop (mkF m 179 #[.val (.long q0), .second, .val (.long q1), .second, .val (.int p2), .val (.int p3), .val (.int p4), .val (.long da), .second, .val (.long db), .second, .val (.int (0 : Int32)), .val (.int (1 : Int32)), .val (.ref b23), .val (.int (0 : Int32)), .val (.int s2), .val (.int s3), .val (.int (0 : Int32)), .val (.int (0 : Int32)), .val (.int (0 : Int32)), .unset, .unset, .unset, .unset, .unset] [(.int (0 : Int32))]))
              have hc179 : (0 : Int32) = (0 : Int32) := (by decide)
              refine Runs.by (fun _ hr => XS.ifYes X43.here hx rfl (pc0 := 179) (pc' := 248) rfl (hb hby at_179) rfl ((if0 _ _).trans (teq hc179).1) (by decide) (by decide) hr) ?_
              refine Runs.by (fun _ hr => XS.iload X43.here hx rfl (hb hby at_248) rfl  hr) ?_
              have hc250 : (0 : Int32) = (0 : Int32) := (by decide)
              refine Runs.by (fun _ hr => XS.ifYes X43.here hx rfl (pc0 := 250) (pc' := 258) rfl (hb hby at_250) rfl ((if0 _ _).trans (teq hc250).1) (by decide) (by decide) hr) ?_
              show Runs p e below _ (T43.setTop (mkF m 258 #[.val (.long q0), .second, .val (.long q1), .second, .val (.int p2), .val (.int p3), .val (.int p4), .val (.long da), .second, .val (.long db), .second, .val (.int (0 : Int32)), .val (.int (1 : Int32)), .val (.ref b23), .val (.int (0 : Int32)), .val (.int s2), .val (.int s3), .val (.int (0 : Int32)), .val (.int (0 : Int32)), .val (.int (0 : Int32)), .unset, .unset, .unset, .unset, .unset] []))
              refine Runs.by (fun _ hr => XS.iload X43.here hx rfl (hb hby at_258) rfl  hr) ?_
              have hc260 : (0 : Int32) = (0 : Int32) := (by decide)
              refine Runs.by (fun _ hr => XS.ifYes X43.here hx rfl (pc0 := 260) (pc' := 272) rfl (hb hby at_260) rfl ((if0 _ _).trans (teq hc260).1) (by decide) (by decide) hr) ?_
              refine Runs.by (fun _ hr => XS.iconst X43.here hx rfl (hb hby at_272) hr) ?_
              show Runs p e below _ (T43.setTop (mkF m 273 #[.val (.long q0), .second, .val (.long q1), .second, .val (.int p2), .val (.int p3), .val (.int p4), .val (.long da), .second, .val (.long db), .second, .val (.int (0 : Int32)), .val (.int (1 : Int32)), .val (.ref b23), .val (.int (0 : Int32)), .val (.int s2), .val (.int s3), .val (.int (0 : Int32)), .val (.int (0 : Int32)), .val (.int (0 : Int32)), .unset, .unset, .unset, .unset, .unset] [(.int (0 : Int32))]))
              refine Runs.by (fun _ hr => XS.istore X43.here hx rfl (hb hby at_273) rfl (l' := #[.val (.long q0), .second, .val (.long q1), .second, .val (.int p2), .val (.int p3), .val (.int p4), .val (.long da), .second, .val (.long db), .second, .val (.int (0 : Int32)), .val (.int (1 : Int32)), .val (.ref b23), .val (.int (0 : Int32)), .val (.int s2), .val (.int s3), .val (.int (0 : Int32)), .val (.int (0 : Int32)), .val (.int (0 : Int32)), .val (.int (0 : Int32)), .unset, .unset, .unset, .unset]) rfl hr) ?_
              refine Runs.by (fun _ hr => XS.iload X43.here hx rfl (hb hby at_275) rfl  hr) ?_
              have hc277 : (0 : Int32) = (0 : Int32) := (by decide)
              refine Runs.by (fun _ hr => XS.ifNo X43.here hx rfl (hb hby at_277) rfl ((if0 _ _).trans (teq hc277).2) hr) ?_
              show Runs p e below _ (T43.setTop (mkF m 280 #[.val (.long q0), .second, .val (.long q1), .second, .val (.int p2), .val (.int p3), .val (.int p4), .val (.long da), .second, .val (.long db), .second, .val (.int (0 : Int32)), .val (.int (1 : Int32)), .val (.ref b23), .val (.int (0 : Int32)), .val (.int s2), .val (.int s3), .val (.int (0 : Int32)), .val (.int (0 : Int32)), .val (.int (0 : Int32)), .val (.int (0 : Int32)), .unset, .unset, .unset, .unset] []))
              refine Runs.by (fun _ hr => XS.iload X43.here hx rfl (hb hby at_280) rfl  hr) ?_
              refine Runs.by (fun _ hr => XS.iload X43.here hx rfl (hb hby at_282) rfl  hr) ?_
              have hc284 : s2 = (0 : Int32) := (by simp [hs2, zD1])
              refine Runs.by (fun _ hr => XS.icmpNo X43.here hx rfl (hb hby at_284) rfl (teq hc284).2 hr) ?_
              show Runs p e below _ (T43.setTop (mkF m 287 #[.val (.long q0), .second, .val (.long q1), .second, .val (.int p2), .val (.int p3), .val (.int p4), .val (.long da), .second, .val (.long db), .second, .val (.int (0 : Int32)), .val (.int (1 : Int32)), .val (.ref b23), .val (.int (0 : Int32)), .val (.int s2), .val (.int s3), .val (.int (0 : Int32)), .val (.int (0 : Int32)), .val (.int (0 : Int32)), .val (.int (0 : Int32)), .unset, .unset, .unset, .unset] []))
              refine Runs.by (fun _ hr => XS.iload X43.here hx rfl (hb hby at_287) rfl  hr) ?_
              refine Runs.by (fun _ hr => XS.iload X43.here hx rfl (hb hby at_289) rfl  hr) ?_
              have hc291 : s3 = (0 : Int32) := (by simp [hs3, zD1, zD2])
              refine Runs.by (fun _ hr => XS.icmpNo X43.here hx rfl (hb hby at_291) rfl (teq hc291).2 hr) ?_
              show Runs p e below _ (T43.setTop (mkF m 294 #[.val (.long q0), .second, .val (.long q1), .second, .val (.int p2), .val (.int p3), .val (.int p4), .val (.long da), .second, .val (.long db), .second, .val (.int (0 : Int32)), .val (.int (1 : Int32)), .val (.ref b23), .val (.int (0 : Int32)), .val (.int s2), .val (.int s3), .val (.int (0 : Int32)), .val (.int (0 : Int32)), .val (.int (0 : Int32)), .val (.int (0 : Int32)), .unset, .unset, .unset, .unset] []))
              refine Runs.by (fun _ hr => XS.iconst X43.here hx rfl (hb hby at_294) hr) ?_
              refine Runs.by (fun _ hr => XS.goto X43.here hx rfl (pc0 := 295) (pc' := 299) rfl (hb hby at_295) (by decide) (by decide) hr) ?_
              show Runs p e below _ (T43.setTop (mkF m 299 #[.val (.long q0), .second, .val (.long q1), .second, .val (.int p2), .val (.int p3), .val (.int p4), .val (.long da), .second, .val (.long db), .second, .val (.int (0 : Int32)), .val (.int (1 : Int32)), .val (.ref b23), .val (.int (0 : Int32)), .val (.int s2), .val (.int s3), .val (.int (0 : Int32)), .val (.int (0 : Int32)), .val (.int (0 : Int32)), .val (.int (0 : Int32)), .unset, .unset, .unset, .unset] [(.int (1 : Int32))]))
              refine Runs.ret X43 hx hrt hlk (Or.inl ⟨rfl, by simp, _, rfl⟩) (by rfl) (hb hby at_299) (by decide) (by decide) ?_
              exact ⟨rfl, N43⟩
            · -- pc 150: not (lcmpW db (0 : Int64)) = (0 : Int32)
              refine Runs.by (fun _ hr => XS.ifNo X43.here hx rfl (hb hby at_150) rfl ((if0 _ _).trans (feq hc150).1) hr) ?_
              refine Runs.by (fun _ hr => XS.iconst X43.here hx rfl (hb hby at_153) hr) ?_
              show Runs p e below _ (T43.setTop (mkF m 154 #[.val (.long q0), .second, .val (.long q1), .second, .val (.int p2), .val (.int p3), .val (.int p4), .val (.long da), .second, .val (.long db), .second, .val (.int (0 : Int32)), .val (.int (1 : Int32)), .val (.ref b23), .val (.int (0 : Int32)), .val (.int s2), .val (.int s3), .val (.int (0 : Int32)), .unset, .unset, .unset, .unset, .unset, .unset, .unset] [(.int (1 : Int32))]))
              refine Runs.by (fun _ hr => XS.goto X43.here hx rfl (pc0 := 154) (pc' := 158) rfl (hb hby at_154) (by decide) (by decide) hr) ?_
              refine Runs.by (fun _ hr => XS.istore X43.here hx rfl (hb hby at_158) rfl (l' := #[.val (.long q0), .second, .val (.long q1), .second, .val (.int p2), .val (.int p3), .val (.int p4), .val (.long da), .second, .val (.long db), .second, .val (.int (0 : Int32)), .val (.int (1 : Int32)), .val (.ref b23), .val (.int (0 : Int32)), .val (.int s2), .val (.int s3), .val (.int (0 : Int32)), .val (.int (1 : Int32)), .unset, .unset, .unset, .unset, .unset, .unset]) rfl hr) ?_
              have zD2 : own_D q1 db = db := own_Dn (fun z => hc143 (own_lcz.mpr z))
              have nD2 : ¬ db = 0 := fun z => hc150 (own_lcz.mpr z)
              refine Runs.by (fun _ hr => XS.iload X43.here hx rfl (hb hby at_160) rfl  hr) ?_
              show Runs p e below _ (T43.setTop (mkF m 162 #[.val (.long q0), .second, .val (.long q1), .second, .val (.int p2), .val (.int p3), .val (.int p4), .val (.long da), .second, .val (.long db), .second, .val (.int (0 : Int32)), .val (.int (1 : Int32)), .val (.ref b23), .val (.int (0 : Int32)), .val (.int s2), .val (.int s3), .val (.int (0 : Int32)), .val (.int (1 : Int32)), .unset, .unset, .unset, .unset, .unset, .unset] [(.int (0 : Int32))]))
              have hc162 : (0 : Int32) = (0 : Int32) := (by decide)
              refine Runs.by (fun _ hr => XS.ifYes X43.here hx rfl (pc0 := 162) (pc' := 174) rfl (hb hby at_162) rfl ((if0 _ _).trans (teq hc162).1) (by decide) (by decide) hr) ?_
              refine Runs.by (fun _ hr => XS.iconst X43.here hx rfl (hb hby at_174) hr) ?_
              refine Runs.by (fun _ hr => XS.istore X43.here hx rfl (hb hby at_175) rfl (l' := #[.val (.long q0), .second, .val (.long q1), .second, .val (.int p2), .val (.int p3), .val (.int p4), .val (.long da), .second, .val (.long db), .second, .val (.int (0 : Int32)), .val (.int (1 : Int32)), .val (.ref b23), .val (.int (0 : Int32)), .val (.int s2), .val (.int s3), .val (.int (0 : Int32)), .val (.int (1 : Int32)), .val (.int (0 : Int32)), .unset, .unset, .unset, .unset, .unset]) rfl hr) ?_
              show Runs p e below _ (T43.setTop (mkF m 177 #[.val (.long q0), .second, .val (.long q1), .second, .val (.int p2), .val (.int p3), .val (.int p4), .val (.long da), .second, .val (.long db), .second, .val (.int (0 : Int32)), .val (.int (1 : Int32)), .val (.ref b23), .val (.int (0 : Int32)), .val (.int s2), .val (.int s3), .val (.int (0 : Int32)), .val (.int (1 : Int32)), .val (.int (0 : Int32)), .unset, .unset, .unset, .unset, .unset] []))
              refine Runs.by (fun _ hr => XS.iload X43.here hx rfl (hb hby at_177) rfl  hr) ?_
              have hc179 : (0 : Int32) = (0 : Int32) := (by decide)
              refine Runs.by (fun _ hr => XS.ifYes X43.here hx rfl (pc0 := 179) (pc' := 248) rfl (hb hby at_179) rfl ((if0 _ _).trans (teq hc179).1) (by decide) (by decide) hr) ?_
              refine Runs.by (fun _ hr => XS.iload X43.here hx rfl (hb hby at_248) rfl  hr) ?_
              show Runs p e below _ (T43.setTop (mkF m 250 #[.val (.long q0), .second, .val (.long q1), .second, .val (.int p2), .val (.int p3), .val (.int p4), .val (.long da), .second, .val (.long db), .second, .val (.int (0 : Int32)), .val (.int (1 : Int32)), .val (.ref b23), .val (.int (0 : Int32)), .val (.int s2), .val (.int s3), .val (.int (0 : Int32)), .val (.int (1 : Int32)), .val (.int (0 : Int32)), .unset, .unset, .unset, .unset, .unset] [(.int (0 : Int32))]))
              have hc250 : (0 : Int32) = (0 : Int32) := (by decide)
              refine Runs.by (fun _ hr => XS.ifYes X43.here hx rfl (pc0 := 250) (pc' := 258) rfl (hb hby at_250) rfl ((if0 _ _).trans (teq hc250).1) (by decide) (by decide) hr) ?_
              refine Runs.by (fun _ hr => XS.iload X43.here hx rfl (hb hby at_258) rfl  hr) ?_
              have hc260 : ¬ ((1 : Int32) = (0 : Int32)) := (by decide)
              refine Runs.by (fun _ hr => XS.ifNo X43.here hx rfl (hb hby at_260) rfl ((if0 _ _).trans (feq hc260).1) hr) ?_
              show Runs p e below _ (T43.setTop (mkF m 263 #[.val (.long q0), .second, .val (.long q1), .second, .val (.int p2), .val (.int p3), .val (.int p4), .val (.long da), .second, .val (.long db), .second, .val (.int (0 : Int32)), .val (.int (1 : Int32)), .val (.ref b23), .val (.int (0 : Int32)), .val (.int s2), .val (.int s3), .val (.int (0 : Int32)), .val (.int (1 : Int32)), .val (.int (0 : Int32)), .unset, .unset, .unset, .unset, .unset] []))
              refine Runs.by (fun _ hr => XS.iload X43.here hx rfl (hb hby at_263) rfl  hr) ?_
              have hc265 : ¬ ((1 : Int32) = (0 : Int32)) := (by decide)
              refine Runs.by (fun _ hr => XS.ifYes X43.here hx rfl (pc0 := 265) (pc' := 272) rfl (hb hby at_265) rfl ((if0 _ _).trans (feq hc265).2) (by decide) (by decide) hr) ?_
              refine Runs.by (fun _ hr => XS.iconst X43.here hx rfl (hb hby at_272) hr) ?_
              show Runs p e below _ (T43.setTop (mkF m 273 #[.val (.long q0), .second, .val (.long q1), .second, .val (.int p2), .val (.int p3), .val (.int p4), .val (.long da), .second, .val (.long db), .second, .val (.int (0 : Int32)), .val (.int (1 : Int32)), .val (.ref b23), .val (.int (0 : Int32)), .val (.int s2), .val (.int s3), .val (.int (0 : Int32)), .val (.int (1 : Int32)), .val (.int (0 : Int32)), .unset, .unset, .unset, .unset, .unset] [(.int (0 : Int32))]))
              refine Runs.by (fun _ hr => XS.istore X43.here hx rfl (hb hby at_273) rfl (l' := #[.val (.long q0), .second, .val (.long q1), .second, .val (.int p2), .val (.int p3), .val (.int p4), .val (.long da), .second, .val (.long db), .second, .val (.int (0 : Int32)), .val (.int (1 : Int32)), .val (.ref b23), .val (.int (0 : Int32)), .val (.int s2), .val (.int s3), .val (.int (0 : Int32)), .val (.int (1 : Int32)), .val (.int (0 : Int32)), .val (.int (0 : Int32)), .unset, .unset, .unset, .unset]) rfl hr) ?_
              refine Runs.by (fun _ hr => XS.iload X43.here hx rfl (hb hby at_275) rfl  hr) ?_
              have hc277 : (0 : Int32) = (0 : Int32) := (by decide)
              refine Runs.by (fun _ hr => XS.ifNo X43.here hx rfl (hb hby at_277) rfl ((if0 _ _).trans (teq hc277).2) hr) ?_
              show Runs p e below _ (T43.setTop (mkF m 280 #[.val (.long q0), .second, .val (.long q1), .second, .val (.int p2), .val (.int p3), .val (.int p4), .val (.long da), .second, .val (.long db), .second, .val (.int (0 : Int32)), .val (.int (1 : Int32)), .val (.ref b23), .val (.int (0 : Int32)), .val (.int s2), .val (.int s3), .val (.int (0 : Int32)), .val (.int (1 : Int32)), .val (.int (0 : Int32)), .val (.int (0 : Int32)), .unset, .unset, .unset, .unset] []))
              refine Runs.by (fun _ hr => XS.iload X43.here hx rfl (hb hby at_280) rfl  hr) ?_
              refine Runs.by (fun _ hr => XS.iload X43.here hx rfl (hb hby at_282) rfl  hr) ?_
              have hc284 : s2 = (0 : Int32) := (by simp [hs2, zD1])
              refine Runs.by (fun _ hr => XS.icmpNo X43.here hx rfl (hb hby at_284) rfl (teq hc284).2 hr) ?_
              show Runs p e below _ (T43.setTop (mkF m 287 #[.val (.long q0), .second, .val (.long q1), .second, .val (.int p2), .val (.int p3), .val (.int p4), .val (.long da), .second, .val (.long db), .second, .val (.int (0 : Int32)), .val (.int (1 : Int32)), .val (.ref b23), .val (.int (0 : Int32)), .val (.int s2), .val (.int s3), .val (.int (0 : Int32)), .val (.int (1 : Int32)), .val (.int (0 : Int32)), .val (.int (0 : Int32)), .unset, .unset, .unset, .unset] []))
              refine Runs.by (fun _ hr => XS.iload X43.here hx rfl (hb hby at_287) rfl  hr) ?_
              refine Runs.by (fun _ hr => XS.iload X43.here hx rfl (hb hby at_289) rfl  hr) ?_
              have hc291 : s3 = (0 : Int32) := (by simp [hs3, zD1, zD2, nD2])
              refine Runs.by (fun _ hr => XS.icmpNo X43.here hx rfl (hb hby at_291) rfl (teq hc291).2 hr) ?_
              show Runs p e below _ (T43.setTop (mkF m 294 #[.val (.long q0), .second, .val (.long q1), .second, .val (.int p2), .val (.int p3), .val (.int p4), .val (.long da), .second, .val (.long db), .second, .val (.int (0 : Int32)), .val (.int (1 : Int32)), .val (.ref b23), .val (.int (0 : Int32)), .val (.int s2), .val (.int s3), .val (.int (0 : Int32)), .val (.int (1 : Int32)), .val (.int (0 : Int32)), .val (.int (0 : Int32)), .unset, .unset, .unset, .unset] []))
              refine Runs.by (fun _ hr => XS.iconst X43.here hx rfl (hb hby at_294) hr) ?_
              refine Runs.by (fun _ hr => XS.goto X43.here hx rfl (pc0 := 295) (pc' := 299) rfl (hb hby at_295) (by decide) (by decide) hr) ?_
              show Runs p e below _ (T43.setTop (mkF m 299 #[.val (.long q0), .second, .val (.long q1), .second, .val (.int p2), .val (.int p3), .val (.int p4), .val (.long da), .second, .val (.long db), .second, .val (.int (0 : Int32)), .val (.int (1 : Int32)), .val (.ref b23), .val (.int (0 : Int32)), .val (.int s2), .val (.int s3), .val (.int (0 : Int32)), .val (.int (1 : Int32)), .val (.int (0 : Int32)), .val (.int (0 : Int32)), .unset, .unset, .unset, .unset] [(.int (1 : Int32))]))
              refine Runs.ret X43 hx hrt hlk (Or.inl ⟨rfl, by simp, _, rfl⟩) (by rfl) (hb hby at_299) (by decide) (by decide) ?_
              exact ⟨rfl, N43⟩
        · -- pc 130: not (lcmpW da (0 : Int64)) = (0 : Int32)
          refine Runs.by (fun _ hr => XS.ifNo X43.here hx rfl (hb hby at_130) rfl ((if0 _ _).trans (feq hc130).1) hr) ?_
          refine Runs.by (fun _ hr => XS.iconst X43.here hx rfl (hb hby at_133) hr) ?_
          refine Runs.by (fun _ hr => XS.goto X43.here hx rfl (pc0 := 134) (pc' := 138) rfl (hb hby at_134) (by decide) (by decide) hr) ?_
          show Runs p e below _ (T43.setTop (mkF m 138 #[.val (.long q0), .second, .val (.long q1), .second, .val (.int p2), .val (.int p3), .val (.int p4), .val (.long da), .second, .val (.long db), .second, .val (.int (0 : Int32)), .val (.int (1 : Int32)), .val (.ref b23), .val (.int (0 : Int32)), .val (.int s2), .val (.int s3), .unset, .unset, .unset, .unset, .unset, .unset, .unset, .unset] [(.int (1 : Int32))]))
          refine Runs.by (fun _ hr => XS.istore X43.here hx rfl (hb hby at_138) rfl (l' := #[.val (.long q0), .second, .val (.long q1), .second, .val (.int p2), .val (.int p3), .val (.int p4), .val (.long da), .second, .val (.long db), .second, .val (.int (0 : Int32)), .val (.int (1 : Int32)), .val (.ref b23), .val (.int (0 : Int32)), .val (.int s2), .val (.int s3), .val (.int (1 : Int32)), .unset, .unset, .unset, .unset, .unset, .unset, .unset]) rfl hr) ?_
          have zD1 : own_D q0 da = da := own_Dn (fun z => hc123 (own_lcz.mpr z))
          have nD1 : ¬ da = 0 := fun z => hc130 (own_lcz.mpr z)
          refine Runs.by (fun _ hr => XS.lloadN X43.here hx rfl (hb hby at_140) rfl  hr) ?_
          refine Runs.by (fun _ hr => XS.lconst X43.here hx rfl (hb hby at_141) hr) ?_
          show Runs p e below _ (T43.setTop (mkF m 142 #[.val (.long q0), .second, .val (.long q1), .second, .val (.int p2), .val (.int p3), .val (.int p4), .val (.long da), .second, .val (.long db), .second, .val (.int (0 : Int32)), .val (.int (1 : Int32)), .val (.ref b23), .val (.int (0 : Int32)), .val (.int s2), .val (.int s3), .val (.int (1 : Int32)), .unset, .unset, .unset, .unset, .unset, .unset, .unset] [(.long (0 : Int64)), (.long q1)]))
          refine Runs.by (fun _ hr => XS.lcmp X43.here hx rfl (hb hby at_142) rfl hr) ?_
          by_cases hc143 : (lcmpW q1 (0 : Int64)) = (0 : Int32)
          · -- pc 143: (lcmpW q1 (0 : Int64)) = (0 : Int32)
            refine Runs.by (fun _ hr => XS.ifYes X43.here hx rfl (pc0 := 143) (pc' := 157) rfl (hb hby at_143) rfl ((if0 _ _).trans (teq hc143).1) (by decide) (by decide) hr) ?_
            refine Runs.by (fun _ hr => XS.iconst X43.here hx rfl (hb hby at_157) hr) ?_
            show Runs p e below _ (T43.setTop (mkF m 158 #[.val (.long q0), .second, .val (.long q1), .second, .val (.int p2), .val (.int p3), .val (.int p4), .val (.long da), .second, .val (.long db), .second, .val (.int (0 : Int32)), .val (.int (1 : Int32)), .val (.ref b23), .val (.int (0 : Int32)), .val (.int s2), .val (.int s3), .val (.int (1 : Int32)), .unset, .unset, .unset, .unset, .unset, .unset, .unset] [(.int (0 : Int32))]))
            refine Runs.by (fun _ hr => XS.istore X43.here hx rfl (hb hby at_158) rfl (l' := #[.val (.long q0), .second, .val (.long q1), .second, .val (.int p2), .val (.int p3), .val (.int p4), .val (.long da), .second, .val (.long db), .second, .val (.int (0 : Int32)), .val (.int (1 : Int32)), .val (.ref b23), .val (.int (0 : Int32)), .val (.int s2), .val (.int s3), .val (.int (1 : Int32)), .val (.int (0 : Int32)), .unset, .unset, .unset, .unset, .unset, .unset]) rfl hr) ?_
            have zD2 : own_D q1 db = 0 := own_Dz1 (own_lcz.mp hc143)
            refine Runs.by (fun _ hr => XS.iload X43.here hx rfl (hb hby at_160) rfl  hr) ?_
            have hc162 : ¬ ((1 : Int32) = (0 : Int32)) := (by decide)
            refine Runs.by (fun _ hr => XS.ifNo X43.here hx rfl (hb hby at_162) rfl ((if0 _ _).trans (feq hc162).1) hr) ?_
            show Runs p e below _ (T43.setTop (mkF m 165 #[.val (.long q0), .second, .val (.long q1), .second, .val (.int p2), .val (.int p3), .val (.int p4), .val (.long da), .second, .val (.long db), .second, .val (.int (0 : Int32)), .val (.int (1 : Int32)), .val (.ref b23), .val (.int (0 : Int32)), .val (.int s2), .val (.int s3), .val (.int (1 : Int32)), .val (.int (0 : Int32)), .unset, .unset, .unset, .unset, .unset, .unset] []))
            refine Runs.by (fun _ hr => XS.iload X43.here hx rfl (hb hby at_165) rfl  hr) ?_
            have hc167 : (0 : Int32) = (0 : Int32) := (by decide)
            refine Runs.by (fun _ hr => XS.ifNo X43.here hx rfl (hb hby at_167) rfl ((if0 _ _).trans (teq hc167).2) hr) ?_
            refine Runs.by (fun _ hr => XS.iconst X43.here hx rfl (hb hby at_170) hr) ?_
            show Runs p e below _ (T43.setTop (mkF m 171 #[.val (.long q0), .second, .val (.long q1), .second, .val (.int p2), .val (.int p3), .val (.int p4), .val (.long da), .second, .val (.long db), .second, .val (.int (0 : Int32)), .val (.int (1 : Int32)), .val (.ref b23), .val (.int (0 : Int32)), .val (.int s2), .val (.int s3), .val (.int (1 : Int32)), .val (.int (0 : Int32)), .unset, .unset, .unset, .unset, .unset, .unset] [(.int (1 : Int32))]))
            refine Runs.by (fun _ hr => XS.goto X43.here hx rfl (pc0 := 171) (pc' := 175) rfl (hb hby at_171) (by decide) (by decide) hr) ?_
            refine Runs.by (fun _ hr => XS.istore X43.here hx rfl (hb hby at_175) rfl (l' := #[.val (.long q0), .second, .val (.long q1), .second, .val (.int p2), .val (.int p3), .val (.int p4), .val (.long da), .second, .val (.long db), .second, .val (.int (0 : Int32)), .val (.int (1 : Int32)), .val (.ref b23), .val (.int (0 : Int32)), .val (.int s2), .val (.int s3), .val (.int (1 : Int32)), .val (.int (0 : Int32)), .val (.int (1 : Int32)), .unset, .unset, .unset, .unset, .unset]) rfl hr) ?_
            refine Runs.by (fun _ hr => XS.iload X43.here hx rfl (hb hby at_177) rfl  hr) ?_
            show Runs p e below _ (T43.setTop (mkF m 179 #[.val (.long q0), .second, .val (.long q1), .second, .val (.int p2), .val (.int p3), .val (.int p4), .val (.long da), .second, .val (.long db), .second, .val (.int (0 : Int32)), .val (.int (1 : Int32)), .val (.ref b23), .val (.int (0 : Int32)), .val (.int s2), .val (.int s3), .val (.int (1 : Int32)), .val (.int (0 : Int32)), .val (.int (1 : Int32)), .unset, .unset, .unset, .unset, .unset] [(.int (1 : Int32))]))
            have hc179 : ¬ ((1 : Int32) = (0 : Int32)) := (by decide)
            refine Runs.by (fun _ hr => XS.ifNo X43.here hx rfl (hb hby at_179) rfl ((if0 _ _).trans (feq hc179).1) hr) ?_
            refine Runs.by (fun _ hr => XS.iload X43.here hx rfl (hb hby at_182) rfl  hr) ?_
            have hc184 : (0 : Int32) = (0 : Int32) := (by decide)
            refine Runs.by (fun _ hr => XS.ifYes X43.here hx rfl (pc0 := 184) (pc' := 248) rfl (hb hby at_184) rfl ((if0 _ _).trans (teq hc184).1) (by decide) (by decide) hr) ?_
            show Runs p e below _ (T43.setTop (mkF m 248 #[.val (.long q0), .second, .val (.long q1), .second, .val (.int p2), .val (.int p3), .val (.int p4), .val (.long da), .second, .val (.long db), .second, .val (.int (0 : Int32)), .val (.int (1 : Int32)), .val (.ref b23), .val (.int (0 : Int32)), .val (.int s2), .val (.int s3), .val (.int (1 : Int32)), .val (.int (0 : Int32)), .val (.int (1 : Int32)), .unset, .unset, .unset, .unset, .unset] []))
            refine Runs.by (fun _ hr => XS.iload X43.here hx rfl (hb hby at_248) rfl  hr) ?_
            have hc250 : ¬ ((1 : Int32) = (0 : Int32)) := (by decide)
            refine Runs.by (fun _ hr => XS.ifNo X43.here hx rfl (hb hby at_250) rfl ((if0 _ _).trans (feq hc250).1) hr) ?_
            refine Runs.by (fun _ hr => XS.iload X43.here hx rfl (hb hby at_253) rfl  hr) ?_
            show Runs p e below _ (T43.setTop (mkF m 255 #[.val (.long q0), .second, .val (.long q1), .second, .val (.int p2), .val (.int p3), .val (.int p4), .val (.long da), .second, .val (.long db), .second, .val (.int (0 : Int32)), .val (.int (1 : Int32)), .val (.ref b23), .val (.int (0 : Int32)), .val (.int s2), .val (.int s3), .val (.int (1 : Int32)), .val (.int (0 : Int32)), .val (.int (1 : Int32)), .unset, .unset, .unset, .unset, .unset] [(.int (0 : Int32))]))
            have hc255 : (0 : Int32) = (0 : Int32) := (by decide)
            refine Runs.by (fun _ hr => XS.ifYes X43.here hx rfl (pc0 := 255) (pc' := 268) rfl (hb hby at_255) rfl ((if0 _ _).trans (teq hc255).1) (by decide) (by decide) hr) ?_
            refine Runs.by (fun _ hr => XS.iconst X43.here hx rfl (hb hby at_268) hr) ?_
            refine Runs.by (fun _ hr => XS.goto X43.here hx rfl (pc0 := 269) (pc' := 273) rfl (hb hby at_269) (by decide) (by decide) hr) ?_
            show Runs p e below _ (T43.setTop (mkF m 273 #[.val (.long q0), .second, .val (.long q1), .second, .val (.int p2), .val (.int p3), .val (.int p4), .val (.long da), .second, .val (.long db), .second, .val (.int (0 : Int32)), .val (.int (1 : Int32)), .val (.ref b23), .val (.int (0 : Int32)), .val (.int s2), .val (.int s3), .val (.int (1 : Int32)), .val (.int (0 : Int32)), .val (.int (1 : Int32)), .unset, .unset, .unset, .unset, .unset] [(.int (1 : Int32))]))
            refine Runs.by (fun _ hr => XS.istore X43.here hx rfl (hb hby at_273) rfl (l' := #[.val (.long q0), .second, .val (.long q1), .second, .val (.int p2), .val (.int p3), .val (.int p4), .val (.long da), .second, .val (.long db), .second, .val (.int (0 : Int32)), .val (.int (1 : Int32)), .val (.ref b23), .val (.int (0 : Int32)), .val (.int s2), .val (.int s3), .val (.int (1 : Int32)), .val (.int (0 : Int32)), .val (.int (1 : Int32)), .val (.int (1 : Int32)), .unset, .unset, .unset, .unset]) rfl hr) ?_
            refine Runs.by (fun _ hr => XS.iload X43.here hx rfl (hb hby at_275) rfl  hr) ?_
            have hc277 : (0 : Int32) = (0 : Int32) := (by decide)
            refine Runs.by (fun _ hr => XS.ifNo X43.here hx rfl (hb hby at_277) rfl ((if0 _ _).trans (teq hc277).2) hr) ?_
            show Runs p e below _ (T43.setTop (mkF m 280 #[.val (.long q0), .second, .val (.long q1), .second, .val (.int p2), .val (.int p3), .val (.int p4), .val (.long da), .second, .val (.long db), .second, .val (.int (0 : Int32)), .val (.int (1 : Int32)), .val (.ref b23), .val (.int (0 : Int32)), .val (.int s2), .val (.int s3), .val (.int (1 : Int32)), .val (.int (0 : Int32)), .val (.int (1 : Int32)), .val (.int (1 : Int32)), .unset, .unset, .unset, .unset] []))
            refine Runs.by (fun _ hr => XS.iload X43.here hx rfl (hb hby at_280) rfl  hr) ?_
            refine Runs.by (fun _ hr => XS.iload X43.here hx rfl (hb hby at_282) rfl  hr) ?_
            have hc284 : s2 = (1 : Int32) := (by simp [hs2, zD1, nD1])
            refine Runs.by (fun _ hr => XS.icmpNo X43.here hx rfl (hb hby at_284) rfl (teq hc284).2 hr) ?_
            show Runs p e below _ (T43.setTop (mkF m 287 #[.val (.long q0), .second, .val (.long q1), .second, .val (.int p2), .val (.int p3), .val (.int p4), .val (.long da), .second, .val (.long db), .second, .val (.int (0 : Int32)), .val (.int (1 : Int32)), .val (.ref b23), .val (.int (0 : Int32)), .val (.int s2), .val (.int s3), .val (.int (1 : Int32)), .val (.int (0 : Int32)), .val (.int (1 : Int32)), .val (.int (1 : Int32)), .unset, .unset, .unset, .unset] []))
            refine Runs.by (fun _ hr => XS.iload X43.here hx rfl (hb hby at_287) rfl  hr) ?_
            refine Runs.by (fun _ hr => XS.iload X43.here hx rfl (hb hby at_289) rfl  hr) ?_
            have hc291 : s3 = (1 : Int32) := (by simp [hs3, zD1, zD2, nD1])
            refine Runs.by (fun _ hr => XS.icmpNo X43.here hx rfl (hb hby at_291) rfl (teq hc291).2 hr) ?_
            show Runs p e below _ (T43.setTop (mkF m 294 #[.val (.long q0), .second, .val (.long q1), .second, .val (.int p2), .val (.int p3), .val (.int p4), .val (.long da), .second, .val (.long db), .second, .val (.int (0 : Int32)), .val (.int (1 : Int32)), .val (.ref b23), .val (.int (0 : Int32)), .val (.int s2), .val (.int s3), .val (.int (1 : Int32)), .val (.int (0 : Int32)), .val (.int (1 : Int32)), .val (.int (1 : Int32)), .unset, .unset, .unset, .unset] []))
            refine Runs.by (fun _ hr => XS.iconst X43.here hx rfl (hb hby at_294) hr) ?_
            refine Runs.by (fun _ hr => XS.goto X43.here hx rfl (pc0 := 295) (pc' := 299) rfl (hb hby at_295) (by decide) (by decide) hr) ?_
            show Runs p e below _ (T43.setTop (mkF m 299 #[.val (.long q0), .second, .val (.long q1), .second, .val (.int p2), .val (.int p3), .val (.int p4), .val (.long da), .second, .val (.long db), .second, .val (.int (0 : Int32)), .val (.int (1 : Int32)), .val (.ref b23), .val (.int (0 : Int32)), .val (.int s2), .val (.int s3), .val (.int (1 : Int32)), .val (.int (0 : Int32)), .val (.int (1 : Int32)), .val (.int (1 : Int32)), .unset, .unset, .unset, .unset] [(.int (1 : Int32))]))
            refine Runs.ret X43 hx hrt hlk (Or.inl ⟨rfl, by simp, _, rfl⟩) (by rfl) (hb hby at_299) (by decide) (by decide) ?_
            exact ⟨rfl, N43⟩
          · -- pc 143: not (lcmpW q1 (0 : Int64)) = (0 : Int32)
            refine Runs.by (fun _ hr => XS.ifNo X43.here hx rfl (hb hby at_143) rfl ((if0 _ _).trans (feq hc143).1) hr) ?_
            refine Runs.by (fun _ hr => XS.lload X43.here hx rfl (hb hby at_146) rfl  hr) ?_
            show Runs p e below _ (T43.setTop (mkF m 148 #[.val (.long q0), .second, .val (.long q1), .second, .val (.int p2), .val (.int p3), .val (.int p4), .val (.long da), .second, .val (.long db), .second, .val (.int (0 : Int32)), .val (.int (1 : Int32)), .val (.ref b23), .val (.int (0 : Int32)), .val (.int s2), .val (.int s3), .val (.int (1 : Int32)), .unset, .unset, .unset, .unset, .unset, .unset, .unset] [(.long db)]))
            refine Runs.by (fun _ hr => XS.lconst X43.here hx rfl (hb hby at_148) hr) ?_
            refine Runs.by (fun _ hr => XS.lcmp X43.here hx rfl (hb hby at_149) rfl hr) ?_
            by_cases hc150 : (lcmpW db (0 : Int64)) = (0 : Int32)
            · -- pc 150: (lcmpW db (0 : Int64)) = (0 : Int32)
              refine Runs.by (fun _ hr => XS.ifYes X43.here hx rfl (pc0 := 150) (pc' := 157) rfl (hb hby at_150) rfl ((if0 _ _).trans (teq hc150).1) (by decide) (by decide) hr) ?_
              show Runs p e below _ (T43.setTop (mkF m 157 #[.val (.long q0), .second, .val (.long q1), .second, .val (.int p2), .val (.int p3), .val (.int p4), .val (.long da), .second, .val (.long db), .second, .val (.int (0 : Int32)), .val (.int (1 : Int32)), .val (.ref b23), .val (.int (0 : Int32)), .val (.int s2), .val (.int s3), .val (.int (1 : Int32)), .unset, .unset, .unset, .unset, .unset, .unset, .unset] []))
              refine Runs.by (fun _ hr => XS.iconst X43.here hx rfl (hb hby at_157) hr) ?_
              refine Runs.by (fun _ hr => XS.istore X43.here hx rfl (hb hby at_158) rfl (l' := #[.val (.long q0), .second, .val (.long q1), .second, .val (.int p2), .val (.int p3), .val (.int p4), .val (.long da), .second, .val (.long db), .second, .val (.int (0 : Int32)), .val (.int (1 : Int32)), .val (.ref b23), .val (.int (0 : Int32)), .val (.int s2), .val (.int s3), .val (.int (1 : Int32)), .val (.int (0 : Int32)), .unset, .unset, .unset, .unset, .unset, .unset]) rfl hr) ?_
              have zD2 : own_D q1 db = 0 := own_Dz2 (own_lcz.mp hc150)
              refine Runs.by (fun _ hr => XS.iload X43.here hx rfl (hb hby at_160) rfl  hr) ?_
              show Runs p e below _ (T43.setTop (mkF m 162 #[.val (.long q0), .second, .val (.long q1), .second, .val (.int p2), .val (.int p3), .val (.int p4), .val (.long da), .second, .val (.long db), .second, .val (.int (0 : Int32)), .val (.int (1 : Int32)), .val (.ref b23), .val (.int (0 : Int32)), .val (.int s2), .val (.int s3), .val (.int (1 : Int32)), .val (.int (0 : Int32)), .unset, .unset, .unset, .unset, .unset, .unset] [(.int (1 : Int32))]))
              have hc162 : ¬ ((1 : Int32) = (0 : Int32)) := (by decide)
              refine Runs.by (fun _ hr => XS.ifNo X43.here hx rfl (hb hby at_162) rfl ((if0 _ _).trans (feq hc162).1) hr) ?_
              refine Runs.by (fun _ hr => XS.iload X43.here hx rfl (hb hby at_165) rfl  hr) ?_
              have hc167 : (0 : Int32) = (0 : Int32) := (by decide)
              refine Runs.by (fun _ hr => XS.ifNo X43.here hx rfl (hb hby at_167) rfl ((if0 _ _).trans (teq hc167).2) hr) ?_
              show Runs p e below _ (T43.setTop (mkF m 170 #[.val (.long q0), .second, .val (.long q1), .second, .val (.int p2), .val (.int p3), .val (.int p4), .val (.long da), .second, .val (.long db), .second, .val (.int (0 : Int32)), .val (.int (1 : Int32)), .val (.ref b23), .val (.int (0 : Int32)), .val (.int s2), .val (.int s3), .val (.int (1 : Int32)), .val (.int (0 : Int32)), .unset, .unset, .unset, .unset, .unset, .unset] []))
              refine Runs.by (fun _ hr => XS.iconst X43.here hx rfl (hb hby at_170) hr) ?_
              refine Runs.by (fun _ hr => XS.goto X43.here hx rfl (pc0 := 171) (pc' := 175) rfl (hb hby at_171) (by decide) (by decide) hr) ?_
              refine Runs.by (fun _ hr => XS.istore X43.here hx rfl (hb hby at_175) rfl (l' := #[.val (.long q0), .second, .val (.long q1), .second, .val (.int p2), .val (.int p3), .val (.int p4), .val (.long da), .second, .val (.long db), .second, .val (.int (0 : Int32)), .val (.int (1 : Int32)), .val (.ref b23), .val (.int (0 : Int32)), .val (.int s2), .val (.int s3), .val (.int (1 : Int32)), .val (.int (0 : Int32)), .val (.int (1 : Int32)), .unset, .unset, .unset, .unset, .unset]) rfl hr) ?_
              show Runs p e below _ (T43.setTop (mkF m 177 #[.val (.long q0), .second, .val (.long q1), .second, .val (.int p2), .val (.int p3), .val (.int p4), .val (.long da), .second, .val (.long db), .second, .val (.int (0 : Int32)), .val (.int (1 : Int32)), .val (.ref b23), .val (.int (0 : Int32)), .val (.int s2), .val (.int s3), .val (.int (1 : Int32)), .val (.int (0 : Int32)), .val (.int (1 : Int32)), .unset, .unset, .unset, .unset, .unset] []))
              refine Runs.by (fun _ hr => XS.iload X43.here hx rfl (hb hby at_177) rfl  hr) ?_
              have hc179 : ¬ ((1 : Int32) = (0 : Int32)) := (by decide)
              refine Runs.by (fun _ hr => XS.ifNo X43.here hx rfl (hb hby at_179) rfl ((if0 _ _).trans (feq hc179).1) hr) ?_
              refine Runs.by (fun _ hr => XS.iload X43.here hx rfl (hb hby at_182) rfl  hr) ?_
              show Runs p e below _ (T43.setTop (mkF m 184 #[.val (.long q0), .second, .val (.long q1), .second, .val (.int p2), .val (.int p3), .val (.int p4), .val (.long da), .second, .val (.long db), .second, .val (.int (0 : Int32)), .val (.int (1 : Int32)), .val (.ref b23), .val (.int (0 : Int32)), .val (.int s2), .val (.int s3), .val (.int (1 : Int32)), .val (.int (0 : Int32)), .val (.int (1 : Int32)), .unset, .unset, .unset, .unset, .unset] [(.int (0 : Int32))]))
              have hc184 : (0 : Int32) = (0 : Int32) := (by decide)
              refine Runs.by (fun _ hr => XS.ifYes X43.here hx rfl (pc0 := 184) (pc' := 248) rfl (hb hby at_184) rfl ((if0 _ _).trans (teq hc184).1) (by decide) (by decide) hr) ?_
              refine Runs.by (fun _ hr => XS.iload X43.here hx rfl (hb hby at_248) rfl  hr) ?_
              have hc250 : ¬ ((1 : Int32) = (0 : Int32)) := (by decide)
              refine Runs.by (fun _ hr => XS.ifNo X43.here hx rfl (hb hby at_250) rfl ((if0 _ _).trans (feq hc250).1) hr) ?_
              show Runs p e below _ (T43.setTop (mkF m 253 #[.val (.long q0), .second, .val (.long q1), .second, .val (.int p2), .val (.int p3), .val (.int p4), .val (.long da), .second, .val (.long db), .second, .val (.int (0 : Int32)), .val (.int (1 : Int32)), .val (.ref b23), .val (.int (0 : Int32)), .val (.int s2), .val (.int s3), .val (.int (1 : Int32)), .val (.int (0 : Int32)), .val (.int (1 : Int32)), .unset, .unset, .unset, .unset, .unset] []))
              refine Runs.by (fun _ hr => XS.iload X43.here hx rfl (hb hby at_253) rfl  hr) ?_
              have hc255 : (0 : Int32) = (0 : Int32) := (by decide)
              refine Runs.by (fun _ hr => XS.ifYes X43.here hx rfl (pc0 := 255) (pc' := 268) rfl (hb hby at_255) rfl ((if0 _ _).trans (teq hc255).1) (by decide) (by decide) hr) ?_
              refine Runs.by (fun _ hr => XS.iconst X43.here hx rfl (hb hby at_268) hr) ?_
              show Runs p e below _ (T43.setTop (mkF m 269 #[.val (.long q0), .second, .val (.long q1), .second, .val (.int p2), .val (.int p3), .val (.int p4), .val (.long da), .second, .val (.long db), .second, .val (.int (0 : Int32)), .val (.int (1 : Int32)), .val (.ref b23), .val (.int (0 : Int32)), .val (.int s2), .val (.int s3), .val (.int (1 : Int32)), .val (.int (0 : Int32)), .val (.int (1 : Int32)), .unset, .unset, .unset, .unset, .unset] [(.int (1 : Int32))]))
              refine Runs.by (fun _ hr => XS.goto X43.here hx rfl (pc0 := 269) (pc' := 273) rfl (hb hby at_269) (by decide) (by decide) hr) ?_
              refine Runs.by (fun _ hr => XS.istore X43.here hx rfl (hb hby at_273) rfl (l' := #[.val (.long q0), .second, .val (.long q1), .second, .val (.int p2), .val (.int p3), .val (.int p4), .val (.long da), .second, .val (.long db), .second, .val (.int (0 : Int32)), .val (.int (1 : Int32)), .val (.ref b23), .val (.int (0 : Int32)), .val (.int s2), .val (.int s3), .val (.int (1 : Int32)), .val (.int (0 : Int32)), .val (.int (1 : Int32)), .val (.int (1 : Int32)), .unset, .unset, .unset, .unset]) rfl hr) ?_
              refine Runs.by (fun _ hr => XS.iload X43.here hx rfl (hb hby at_275) rfl  hr) ?_
              show Runs p e below _ (T43.setTop (mkF m 277 #[.val (.long q0), .second, .val (.long q1), .second, .val (.int p2), .val (.int p3), .val (.int p4), .val (.long da), .second, .val (.long db), .second, .val (.int (0 : Int32)), .val (.int (1 : Int32)), .val (.ref b23), .val (.int (0 : Int32)), .val (.int s2), .val (.int s3), .val (.int (1 : Int32)), .val (.int (0 : Int32)), .val (.int (1 : Int32)), .val (.int (1 : Int32)), .unset, .unset, .unset, .unset] [(.int (0 : Int32))]))
              have hc277 : (0 : Int32) = (0 : Int32) := (by decide)
              refine Runs.by (fun _ hr => XS.ifNo X43.here hx rfl (hb hby at_277) rfl ((if0 _ _).trans (teq hc277).2) hr) ?_
              refine Runs.by (fun _ hr => XS.iload X43.here hx rfl (hb hby at_280) rfl  hr) ?_
              refine Runs.by (fun _ hr => XS.iload X43.here hx rfl (hb hby at_282) rfl  hr) ?_
              show Runs p e below _ (T43.setTop (mkF m 284 #[.val (.long q0), .second, .val (.long q1), .second, .val (.int p2), .val (.int p3), .val (.int p4), .val (.long da), .second, .val (.long db), .second, .val (.int (0 : Int32)), .val (.int (1 : Int32)), .val (.ref b23), .val (.int (0 : Int32)), .val (.int s2), .val (.int s3), .val (.int (1 : Int32)), .val (.int (0 : Int32)), .val (.int (1 : Int32)), .val (.int (1 : Int32)), .unset, .unset, .unset, .unset] [(.int (1 : Int32)), (.int s2)]))
              have hc284 : s2 = (1 : Int32) := (by simp [hs2, zD1, nD1])
              refine Runs.by (fun _ hr => XS.icmpNo X43.here hx rfl (hb hby at_284) rfl (teq hc284).2 hr) ?_
              refine Runs.by (fun _ hr => XS.iload X43.here hx rfl (hb hby at_287) rfl  hr) ?_
              refine Runs.by (fun _ hr => XS.iload X43.here hx rfl (hb hby at_289) rfl  hr) ?_
              show Runs p e below _ (T43.setTop (mkF m 291 #[.val (.long q0), .second, .val (.long q1), .second, .val (.int p2), .val (.int p3), .val (.int p4), .val (.long da), .second, .val (.long db), .second, .val (.int (0 : Int32)), .val (.int (1 : Int32)), .val (.ref b23), .val (.int (0 : Int32)), .val (.int s2), .val (.int s3), .val (.int (1 : Int32)), .val (.int (0 : Int32)), .val (.int (1 : Int32)), .val (.int (1 : Int32)), .unset, .unset, .unset, .unset] [(.int (1 : Int32)), (.int s3)]))
              have hc291 : s3 = (1 : Int32) := (by simp [hs3, zD1, zD2, nD1])
              refine Runs.by (fun _ hr => XS.icmpNo X43.here hx rfl (hb hby at_291) rfl (teq hc291).2 hr) ?_
              refine Runs.by (fun _ hr => XS.iconst X43.here hx rfl (hb hby at_294) hr) ?_
              refine Runs.by (fun _ hr => XS.goto X43.here hx rfl (pc0 := 295) (pc' := 299) rfl (hb hby at_295) (by decide) (by decide) hr) ?_
              show Runs p e below _ (T43.setTop (mkF m 299 #[.val (.long q0), .second, .val (.long q1), .second, .val (.int p2), .val (.int p3), .val (.int p4), .val (.long da), .second, .val (.long db), .second, .val (.int (0 : Int32)), .val (.int (1 : Int32)), .val (.ref b23), .val (.int (0 : Int32)), .val (.int s2), .val (.int s3), .val (.int (1 : Int32)), .val (.int (0 : Int32)), .val (.int (1 : Int32)), .val (.int (1 : Int32)), .unset, .unset, .unset, .unset] [(.int (1 : Int32))]))
              refine Runs.ret X43 hx hrt hlk (Or.inl ⟨rfl, by simp, _, rfl⟩) (by rfl) (hb hby at_299) (by decide) (by decide) ?_
              exact ⟨rfl, N43⟩
            · -- pc 150: not (lcmpW db (0 : Int64)) = (0 : Int32)
              refine Runs.by (fun _ hr => XS.ifNo X43.here hx rfl (hb hby at_150) rfl ((if0 _ _).trans (feq hc150).1) hr) ?_
              show Runs p e below _ (T43.setTop (mkF m 153 #[.val (.long q0), .second, .val (.long q1), .second, .val (.int p2), .val (.int p3), .val (.int p4), .val (.long da), .second, .val (.long db), .second, .val (.int (0 : Int32)), .val (.int (1 : Int32)), .val (.ref b23), .val (.int (0 : Int32)), .val (.int s2), .val (.int s3), .val (.int (1 : Int32)), .unset, .unset, .unset, .unset, .unset, .unset, .unset] []))
              refine Runs.by (fun _ hr => XS.iconst X43.here hx rfl (hb hby at_153) hr) ?_
              refine Runs.by (fun _ hr => XS.goto X43.here hx rfl (pc0 := 154) (pc' := 158) rfl (hb hby at_154) (by decide) (by decide) hr) ?_
              refine Runs.by (fun _ hr => XS.istore X43.here hx rfl (hb hby at_158) rfl (l' := #[.val (.long q0), .second, .val (.long q1), .second, .val (.int p2), .val (.int p3), .val (.int p4), .val (.long da), .second, .val (.long db), .second, .val (.int (0 : Int32)), .val (.int (1 : Int32)), .val (.ref b23), .val (.int (0 : Int32)), .val (.int s2), .val (.int s3), .val (.int (1 : Int32)), .val (.int (1 : Int32)), .unset, .unset, .unset, .unset, .unset, .unset]) rfl hr) ?_
              have zD2 : own_D q1 db = db := own_Dn (fun z => hc143 (own_lcz.mpr z))
              have nD2 : ¬ db = 0 := fun z => hc150 (own_lcz.mpr z)
              show Runs p e below _ (T43.setTop (mkF m 160 #[.val (.long q0), .second, .val (.long q1), .second, .val (.int p2), .val (.int p3), .val (.int p4), .val (.long da), .second, .val (.long db), .second, .val (.int (0 : Int32)), .val (.int (1 : Int32)), .val (.ref b23), .val (.int (0 : Int32)), .val (.int s2), .val (.int s3), .val (.int (1 : Int32)), .val (.int (1 : Int32)), .unset, .unset, .unset, .unset, .unset, .unset] []))
              refine Runs.by (fun _ hr => XS.iload X43.here hx rfl (hb hby at_160) rfl  hr) ?_
              have hc162 : ¬ ((1 : Int32) = (0 : Int32)) := (by decide)
              refine Runs.by (fun _ hr => XS.ifNo X43.here hx rfl (hb hby at_162) rfl ((if0 _ _).trans (feq hc162).1) hr) ?_
              refine Runs.by (fun _ hr => XS.iload X43.here hx rfl (hb hby at_165) rfl  hr) ?_
              show Runs p e below _ (T43.setTop (mkF m 167 #[.val (.long q0), .second, .val (.long q1), .second, .val (.int p2), .val (.int p3), .val (.int p4), .val (.long da), .second, .val (.long db), .second, .val (.int (0 : Int32)), .val (.int (1 : Int32)), .val (.ref b23), .val (.int (0 : Int32)), .val (.int s2), .val (.int s3), .val (.int (1 : Int32)), .val (.int (1 : Int32)), .unset, .unset, .unset, .unset, .unset, .unset] [(.int (0 : Int32))]))
              have hc167 : (0 : Int32) = (0 : Int32) := (by decide)
              refine Runs.by (fun _ hr => XS.ifNo X43.here hx rfl (hb hby at_167) rfl ((if0 _ _).trans (teq hc167).2) hr) ?_
              refine Runs.by (fun _ hr => XS.iconst X43.here hx rfl (hb hby at_170) hr) ?_
              refine Runs.by (fun _ hr => XS.goto X43.here hx rfl (pc0 := 171) (pc' := 175) rfl (hb hby at_171) (by decide) (by decide) hr) ?_
              show Runs p e below _ (T43.setTop (mkF m 175 #[.val (.long q0), .second, .val (.long q1), .second, .val (.int p2), .val (.int p3), .val (.int p4), .val (.long da), .second, .val (.long db), .second, .val (.int (0 : Int32)), .val (.int (1 : Int32)), .val (.ref b23), .val (.int (0 : Int32)), .val (.int s2), .val (.int s3), .val (.int (1 : Int32)), .val (.int (1 : Int32)), .unset, .unset, .unset, .unset, .unset, .unset] [(.int (1 : Int32))]))
              refine Runs.by (fun _ hr => XS.istore X43.here hx rfl (hb hby at_175) rfl (l' := #[.val (.long q0), .second, .val (.long q1), .second, .val (.int p2), .val (.int p3), .val (.int p4), .val (.long da), .second, .val (.long db), .second, .val (.int (0 : Int32)), .val (.int (1 : Int32)), .val (.ref b23), .val (.int (0 : Int32)), .val (.int s2), .val (.int s3), .val (.int (1 : Int32)), .val (.int (1 : Int32)), .val (.int (1 : Int32)), .unset, .unset, .unset, .unset, .unset]) rfl hr) ?_
              refine Runs.by (fun _ hr => XS.iload X43.here hx rfl (hb hby at_177) rfl  hr) ?_
              have hc179 : ¬ ((1 : Int32) = (0 : Int32)) := (by decide)
              refine Runs.by (fun _ hr => XS.ifNo X43.here hx rfl (hb hby at_179) rfl ((if0 _ _).trans (feq hc179).1) hr) ?_
              show Runs p e below _ (T43.setTop (mkF m 182 #[.val (.long q0), .second, .val (.long q1), .second, .val (.int p2), .val (.int p3), .val (.int p4), .val (.long da), .second, .val (.long db), .second, .val (.int (0 : Int32)), .val (.int (1 : Int32)), .val (.ref b23), .val (.int (0 : Int32)), .val (.int s2), .val (.int s3), .val (.int (1 : Int32)), .val (.int (1 : Int32)), .val (.int (1 : Int32)), .unset, .unset, .unset, .unset, .unset] []))
              refine Runs.by (fun _ hr => XS.iload X43.here hx rfl (hb hby at_182) rfl  hr) ?_
              have hc184 : ¬ ((1 : Int32) = (0 : Int32)) := (by decide)
              refine Runs.by (fun _ hr => XS.ifNo X43.here hx rfl (hb hby at_184) rfl ((if0 _ _).trans (feq hc184).1) hr) ?_
              refine Runs.by (fun _ hr => XS.iload X43.here hx rfl (hb hby at_187) rfl  hr) ?_
              show Runs p e below _ (T43.setTop (mkF m 189 #[.val (.long q0), .second, .val (.long q1), .second, .val (.int p2), .val (.int p3), .val (.int p4), .val (.long da), .second, .val (.long db), .second, .val (.int (0 : Int32)), .val (.int (1 : Int32)), .val (.ref b23), .val (.int (0 : Int32)), .val (.int s2), .val (.int s3), .val (.int (1 : Int32)), .val (.int (1 : Int32)), .val (.int (1 : Int32)), .unset, .unset, .unset, .unset, .unset] [(.int (0 : Int32))]))
              refine Runs.by (fun _ hr => XS.iload X43.here hx rfl (hb hby at_189) rfl  hr) ?_
              have hc191 : ¬ ((0 : Int32) = (1 : Int32)) := (by decide)
              refine Runs.by (fun _ hr => XS.icmpNo X43.here hx rfl (hb hby at_191) rfl (feq hc191).1 hr) ?_
              refine Runs.by (fun _ hr => XS.iload X43.here hx rfl (hb hby at_194) rfl  hr) ?_
              show Runs p e below _ (T43.setTop (mkF m 196 #[.val (.long q0), .second, .val (.long q1), .second, .val (.int p2), .val (.int p3), .val (.int p4), .val (.long da), .second, .val (.long db), .second, .val (.int (0 : Int32)), .val (.int (1 : Int32)), .val (.ref b23), .val (.int (0 : Int32)), .val (.int s2), .val (.int s3), .val (.int (1 : Int32)), .val (.int (1 : Int32)), .val (.int (1 : Int32)), .unset, .unset, .unset, .unset, .unset] [(.int (1 : Int32))]))
              have hc196 : ¬ ((1 : Int32) = (0 : Int32)) := (by decide)
              refine Runs.by (fun _ hr => XS.ifNo X43.here hx rfl (hb hby at_196) rfl ((if0 _ _).trans (feq hc196).1) hr) ?_
              refine Runs.by (fun _ hr => XS.lload X43.here hx rfl (hb hby at_199) rfl  hr) ?_
              refine Runs.by (fun _ hr => XS.goto X43.here hx rfl (pc0 := 201) (pc' := 206) rfl (hb hby at_201) (by decide) (by decide) hr) ?_
              show Runs p e below _ (T43.setTop (mkF m 206 #[.val (.long q0), .second, .val (.long q1), .second, .val (.int p2), .val (.int p3), .val (.int p4), .val (.long da), .second, .val (.long db), .second, .val (.int (0 : Int32)), .val (.int (1 : Int32)), .val (.ref b23), .val (.int (0 : Int32)), .val (.int s2), .val (.int s3), .val (.int (1 : Int32)), .val (.int (1 : Int32)), .val (.int (1 : Int32)), .unset, .unset, .unset, .unset, .unset] [(.long db)]))
              refine Runs.by (fun _ hr => XS.lstore X43.here hx rfl (hb hby at_206) rfl (l' := #[.val (.long q0), .second, .val (.long q1), .second, .val (.int p2), .val (.int p3), .val (.int p4), .val (.long da), .second, .val (.long db), .second, .val (.int (0 : Int32)), .val (.int (1 : Int32)), .val (.ref b23), .val (.int (0 : Int32)), .val (.int s2), .val (.int s3), .val (.int (1 : Int32)), .val (.int (1 : Int32)), .val (.int (1 : Int32)), .unset, .val (.long db), .second, .unset, .unset]) rfl hr) ?_
              refine Runs.by (fun _ hr => XS.iload X43.here hx rfl (hb hby at_208) rfl  hr) ?_
              have hc210 : ¬ ((1 : Int32) = (0 : Int32)) := (by decide)
              refine Runs.by (fun _ hr => XS.ifNo X43.here hx rfl (hb hby at_210) rfl ((if0 _ _).trans (feq hc210).1) hr) ?_
              show Runs p e below _ (T43.setTop (mkF m 213 #[.val (.long q0), .second, .val (.long q1), .second, .val (.int p2), .val (.int p3), .val (.int p4), .val (.long da), .second, .val (.long db), .second, .val (.int (0 : Int32)), .val (.int (1 : Int32)), .val (.ref b23), .val (.int (0 : Int32)), .val (.int s2), .val (.int s3), .val (.int (1 : Int32)), .val (.int (1 : Int32)), .val (.int (1 : Int32)), .unset, .val (.long db), .second, .unset, .unset] []))
              refine Runs.by (fun _ hr => XS.lload X43.here hx rfl (hb hby at_213) rfl  hr) ?_
              refine Runs.by (fun _ hr => XS.goto X43.here hx rfl (pc0 := 215) (pc' := 220) rfl (hb hby at_215) (by decide) (by decide) hr) ?_
              refine Runs.by (fun _ hr => XS.lstore X43.here hx rfl (hb hby at_220) rfl (l' := #[.val (.long q0), .second, .val (.long q1), .second, .val (.int p2), .val (.int p3), .val (.int p4), .val (.long da), .second, .val (.long db), .second, .val (.int (0 : Int32)), .val (.int (1 : Int32)), .val (.ref b23), .val (.int (0 : Int32)), .val (.int s2), .val (.int s3), .val (.int (1 : Int32)), .val (.int (1 : Int32)), .val (.int (1 : Int32)), .unset, .val (.long db), .second, .val (.long da), .second]) rfl hr) ?_
              show Runs p e below _ (T43.setTop (mkF m 222 #[.val (.long q0), .second, .val (.long q1), .second, .val (.int p2), .val (.int p3), .val (.int p4), .val (.long da), .second, .val (.long db), .second, .val (.int (0 : Int32)), .val (.int (1 : Int32)), .val (.ref b23), .val (.int (0 : Int32)), .val (.int s2), .val (.int s3), .val (.int (1 : Int32)), .val (.int (1 : Int32)), .val (.int (1 : Int32)), .unset, .val (.long db), .second, .val (.long da), .second] []))
              refine Runs.by (fun _ hr => X43.ldc2J hx hown (mvT hZ (hw _ (List.mem_of_getElem? (i := 51) rfl))) (g := (mkF m 222 #[.val (.long q0), .second, .val (.long q1), .second, .val (.int p2), .val (.int p3), .val (.int p4), .val (.long da), .second, .val (.long db), .second, .val (.int (0 : Int32)), .val (.int (1 : Int32)), .val (.ref b23), .val (.int (0 : Int32)), .val (.int s2), .val (.int s3), .val (.int (1 : Int32)), .val (.int (1 : Int32)), .val (.int (1 : Int32)), .unset, .val (.long db), .second, .val (.long da), .second] [])) rfl (hb hby at_222) hr) ?_
              refine Runs.by (fun _ hr => XS.lload X43.here hx rfl (hb hby at_225) rfl  hr) ?_
              refine Runs.by (fun _ hr => XS.lmul X43.here hx rfl (hb hby at_227) rfl hr) ?_
              show Runs p e below _ (T43.setTop (mkF m 228 #[.val (.long q0), .second, .val (.long q1), .second, .val (.int p2), .val (.int p3), .val (.int p4), .val (.long da), .second, .val (.long db), .second, .val (.int (0 : Int32)), .val (.int (1 : Int32)), .val (.ref b23), .val (.int (0 : Int32)), .val (.int s2), .val (.int s3), .val (.int (1 : Int32)), .val (.int (1 : Int32)), .val (.int (1 : Int32)), .unset, .val (.long db), .second, .val (.long da), .second] [(.long ((10 : Int64) * db))]))
              refine Runs.by (fun _ hr => X43.ldc2J hx hown (mvT hZ (hw _ (List.mem_of_getElem? (i := 52) rfl))) (g := (mkF m 228 #[.val (.long q0), .second, .val (.long q1), .second, .val (.int p2), .val (.int p3), .val (.int p4), .val (.long da), .second, .val (.long db), .second, .val (.int (0 : Int32)), .val (.int (1 : Int32)), .val (.ref b23), .val (.int (0 : Int32)), .val (.int s2), .val (.int s3), .val (.int (1 : Int32)), .val (.int (1 : Int32)), .val (.int (1 : Int32)), .unset, .val (.long db), .second, .val (.long da), .second] [(.long ((10 : Int64) * db))])) rfl (hb hby at_228) hr) ?_
              refine Runs.by (fun _ hr => XS.lload X43.here hx rfl (hb hby at_231) rfl  hr) ?_
              refine Runs.by (fun _ hr => XS.lmul X43.here hx rfl (hb hby at_233) rfl hr) ?_
              show Runs p e below _ (T43.setTop (mkF m 234 #[.val (.long q0), .second, .val (.long q1), .second, .val (.int p2), .val (.int p3), .val (.int p4), .val (.long da), .second, .val (.long db), .second, .val (.int (0 : Int32)), .val (.int (1 : Int32)), .val (.ref b23), .val (.int (0 : Int32)), .val (.int s2), .val (.int s3), .val (.int (1 : Int32)), .val (.int (1 : Int32)), .val (.int (1 : Int32)), .unset, .val (.long db), .second, .val (.long da), .second] [(.long ((9 : Int64) * da)), (.long ((10 : Int64) * db))]))
              refine Runs.by (fun _ hr => XS.lcmp X43.here hx rfl (hb hby at_234) rfl hr) ?_
              by_cases hc235 : (0 : Int32) < (lcmpW ((10 : Int64) * db) ((9 : Int64) * da))
              · -- pc 235: (0 : Int32) < (lcmpW ((10 : Int64) * db) ((9 : Int64) * da))
                refine Runs.by (fun _ hr => XS.ifYes X43.here hx rfl (pc0 := 235) (pc' := 242) rfl (hb hby at_235) rfl ((if0 _ _).trans (tlt hc235).2.2.1) (by decide) (by decide) hr) ?_
                refine Runs.by (fun _ hr => XS.iconst X43.here hx rfl (hb hby at_242) hr) ?_
                show Runs p e below _ (T43.setTop (mkF m 243 #[.val (.long q0), .second, .val (.long q1), .second, .val (.int p2), .val (.int p3), .val (.int p4), .val (.long da), .second, .val (.long db), .second, .val (.int (0 : Int32)), .val (.int (1 : Int32)), .val (.ref b23), .val (.int (0 : Int32)), .val (.int s2), .val (.int s3), .val (.int (1 : Int32)), .val (.int (1 : Int32)), .val (.int (1 : Int32)), .unset, .val (.long db), .second, .val (.long da), .second] [(.int (0 : Int32))]))
                refine Runs.by (fun _ hr => XS.istore X43.here hx rfl (hb hby at_243) rfl (l' := #[.val (.long q0), .second, .val (.long q1), .second, .val (.int p2), .val (.int p3), .val (.int p4), .val (.long da), .second, .val (.long db), .second, .val (.int (0 : Int32)), .val (.int (1 : Int32)), .val (.ref b23), .val (.int (0 : Int32)), .val (.int s2), .val (.int s3), .val (.int (1 : Int32)), .val (.int (1 : Int32)), .val (.int (1 : Int32)), .val (.int (0 : Int32)), .val (.long db), .second, .val (.long da), .second]) rfl hr) ?_
                refine Runs.by (fun _ hr => XS.goto X43.here hx rfl (pc0 := 245) (pc' := 275) rfl (hb hby at_245) (by decide) (by decide) hr) ?_
                refine Runs.by (fun _ hr => XS.iload X43.here hx rfl (hb hby at_275) rfl  hr) ?_
                show Runs p e below _ (T43.setTop (mkF m 277 #[.val (.long q0), .second, .val (.long q1), .second, .val (.int p2), .val (.int p3), .val (.int p4), .val (.long da), .second, .val (.long db), .second, .val (.int (0 : Int32)), .val (.int (1 : Int32)), .val (.ref b23), .val (.int (0 : Int32)), .val (.int s2), .val (.int s3), .val (.int (1 : Int32)), .val (.int (1 : Int32)), .val (.int (1 : Int32)), .val (.int (0 : Int32)), .val (.long db), .second, .val (.long da), .second] [(.int (0 : Int32))]))
                have hc277 : (0 : Int32) = (0 : Int32) := (by decide)
                refine Runs.by (fun _ hr => XS.ifNo X43.here hx rfl (hb hby at_277) rfl ((if0 _ _).trans (teq hc277).2) hr) ?_
                refine Runs.by (fun _ hr => XS.iload X43.here hx rfl (hb hby at_280) rfl  hr) ?_
                refine Runs.by (fun _ hr => XS.iload X43.here hx rfl (hb hby at_282) rfl  hr) ?_
                show Runs p e below _ (T43.setTop (mkF m 284 #[.val (.long q0), .second, .val (.long q1), .second, .val (.int p2), .val (.int p3), .val (.int p4), .val (.long da), .second, .val (.long db), .second, .val (.int (0 : Int32)), .val (.int (1 : Int32)), .val (.ref b23), .val (.int (0 : Int32)), .val (.int s2), .val (.int s3), .val (.int (1 : Int32)), .val (.int (1 : Int32)), .val (.int (1 : Int32)), .val (.int (0 : Int32)), .val (.long db), .second, .val (.long da), .second] [(.int (1 : Int32)), (.int s2)]))
                have hc284 : s2 = (1 : Int32) := (by simp [hs2, zD1, nD1])
                refine Runs.by (fun _ hr => XS.icmpNo X43.here hx rfl (hb hby at_284) rfl (teq hc284).2 hr) ?_
                refine Runs.by (fun _ hr => XS.iload X43.here hx rfl (hb hby at_287) rfl  hr) ?_
                refine Runs.by (fun _ hr => XS.iload X43.here hx rfl (hb hby at_289) rfl  hr) ?_
                show Runs p e below _ (T43.setTop (mkF m 291 #[.val (.long q0), .second, .val (.long q1), .second, .val (.int p2), .val (.int p3), .val (.int p4), .val (.long da), .second, .val (.long db), .second, .val (.int (0 : Int32)), .val (.int (1 : Int32)), .val (.ref b23), .val (.int (0 : Int32)), .val (.int s2), .val (.int s3), .val (.int (1 : Int32)), .val (.int (1 : Int32)), .val (.int (1 : Int32)), .val (.int (0 : Int32)), .val (.long db), .second, .val (.long da), .second] [(.int (0 : Int32)), (.int s3)]))
                have hc291 : s3 = (0 : Int32) := (by have hm := (own_mc cdb cda).mp hc235; simp [hs3, zD1, zD2, nD1, nD2, hm])
                refine Runs.by (fun _ hr => XS.icmpNo X43.here hx rfl (hb hby at_291) rfl (teq hc291).2 hr) ?_
                refine Runs.by (fun _ hr => XS.iconst X43.here hx rfl (hb hby at_294) hr) ?_
                refine Runs.by (fun _ hr => XS.goto X43.here hx rfl (pc0 := 295) (pc' := 299) rfl (hb hby at_295) (by decide) (by decide) hr) ?_
                show Runs p e below _ (T43.setTop (mkF m 299 #[.val (.long q0), .second, .val (.long q1), .second, .val (.int p2), .val (.int p3), .val (.int p4), .val (.long da), .second, .val (.long db), .second, .val (.int (0 : Int32)), .val (.int (1 : Int32)), .val (.ref b23), .val (.int (0 : Int32)), .val (.int s2), .val (.int s3), .val (.int (1 : Int32)), .val (.int (1 : Int32)), .val (.int (1 : Int32)), .val (.int (0 : Int32)), .val (.long db), .second, .val (.long da), .second] [(.int (1 : Int32))]))
                refine Runs.ret X43 hx hrt hlk (Or.inl ⟨rfl, by simp, _, rfl⟩) (by rfl) (hb hby at_299) (by decide) (by decide) ?_
                exact ⟨rfl, N43⟩
              · -- pc 235: not (0 : Int32) < (lcmpW ((10 : Int64) * db) ((9 : Int64) * da))
                refine Runs.by (fun _ hr => XS.ifNo X43.here hx rfl (hb hby at_235) rfl ((if0 _ _).trans (flt hc235).2.2.1) hr) ?_
                refine Runs.by (fun _ hr => XS.iconst X43.here hx rfl (hb hby at_238) hr) ?_
                show Runs p e below _ (T43.setTop (mkF m 239 #[.val (.long q0), .second, .val (.long q1), .second, .val (.int p2), .val (.int p3), .val (.int p4), .val (.long da), .second, .val (.long db), .second, .val (.int (0 : Int32)), .val (.int (1 : Int32)), .val (.ref b23), .val (.int (0 : Int32)), .val (.int s2), .val (.int s3), .val (.int (1 : Int32)), .val (.int (1 : Int32)), .val (.int (1 : Int32)), .unset, .val (.long db), .second, .val (.long da), .second] [(.int (1 : Int32))]))
                refine Runs.by (fun _ hr => XS.goto X43.here hx rfl (pc0 := 239) (pc' := 243) rfl (hb hby at_239) (by decide) (by decide) hr) ?_
                refine Runs.by (fun _ hr => XS.istore X43.here hx rfl (hb hby at_243) rfl (l' := #[.val (.long q0), .second, .val (.long q1), .second, .val (.int p2), .val (.int p3), .val (.int p4), .val (.long da), .second, .val (.long db), .second, .val (.int (0 : Int32)), .val (.int (1 : Int32)), .val (.ref b23), .val (.int (0 : Int32)), .val (.int s2), .val (.int s3), .val (.int (1 : Int32)), .val (.int (1 : Int32)), .val (.int (1 : Int32)), .val (.int (1 : Int32)), .val (.long db), .second, .val (.long da), .second]) rfl hr) ?_
                refine Runs.by (fun _ hr => XS.goto X43.here hx rfl (pc0 := 245) (pc' := 275) rfl (hb hby at_245) (by decide) (by decide) hr) ?_
                show Runs p e below _ (T43.setTop (mkF m 275 #[.val (.long q0), .second, .val (.long q1), .second, .val (.int p2), .val (.int p3), .val (.int p4), .val (.long da), .second, .val (.long db), .second, .val (.int (0 : Int32)), .val (.int (1 : Int32)), .val (.ref b23), .val (.int (0 : Int32)), .val (.int s2), .val (.int s3), .val (.int (1 : Int32)), .val (.int (1 : Int32)), .val (.int (1 : Int32)), .val (.int (1 : Int32)), .val (.long db), .second, .val (.long da), .second] []))
                refine Runs.by (fun _ hr => XS.iload X43.here hx rfl (hb hby at_275) rfl  hr) ?_
                have hc277 : (0 : Int32) = (0 : Int32) := (by decide)
                refine Runs.by (fun _ hr => XS.ifNo X43.here hx rfl (hb hby at_277) rfl ((if0 _ _).trans (teq hc277).2) hr) ?_
                refine Runs.by (fun _ hr => XS.iload X43.here hx rfl (hb hby at_280) rfl  hr) ?_
                show Runs p e below _ (T43.setTop (mkF m 282 #[.val (.long q0), .second, .val (.long q1), .second, .val (.int p2), .val (.int p3), .val (.int p4), .val (.long da), .second, .val (.long db), .second, .val (.int (0 : Int32)), .val (.int (1 : Int32)), .val (.ref b23), .val (.int (0 : Int32)), .val (.int s2), .val (.int s3), .val (.int (1 : Int32)), .val (.int (1 : Int32)), .val (.int (1 : Int32)), .val (.int (1 : Int32)), .val (.long db), .second, .val (.long da), .second] [(.int s2)]))
                refine Runs.by (fun _ hr => XS.iload X43.here hx rfl (hb hby at_282) rfl  hr) ?_
                have hc284 : s2 = (1 : Int32) := (by simp [hs2, zD1, nD1])
                refine Runs.by (fun _ hr => XS.icmpNo X43.here hx rfl (hb hby at_284) rfl (teq hc284).2 hr) ?_
                refine Runs.by (fun _ hr => XS.iload X43.here hx rfl (hb hby at_287) rfl  hr) ?_
                show Runs p e below _ (T43.setTop (mkF m 289 #[.val (.long q0), .second, .val (.long q1), .second, .val (.int p2), .val (.int p3), .val (.int p4), .val (.long da), .second, .val (.long db), .second, .val (.int (0 : Int32)), .val (.int (1 : Int32)), .val (.ref b23), .val (.int (0 : Int32)), .val (.int s2), .val (.int s3), .val (.int (1 : Int32)), .val (.int (1 : Int32)), .val (.int (1 : Int32)), .val (.int (1 : Int32)), .val (.long db), .second, .val (.long da), .second] [(.int s3)]))
                refine Runs.by (fun _ hr => XS.iload X43.here hx rfl (hb hby at_289) rfl  hr) ?_
                have hc291 : s3 = (1 : Int32) := (by have hm := Classical.not_not.mp (fun z => hc235 ((own_mc cdb cda).mpr z)); simp [hs3, zD1, zD2, nD1, nD2, hm])
                refine Runs.by (fun _ hr => XS.icmpNo X43.here hx rfl (hb hby at_291) rfl (teq hc291).2 hr) ?_
                refine Runs.by (fun _ hr => XS.iconst X43.here hx rfl (hb hby at_294) hr) ?_
                show Runs p e below _ (T43.setTop (mkF m 295 #[.val (.long q0), .second, .val (.long q1), .second, .val (.int p2), .val (.int p3), .val (.int p4), .val (.long da), .second, .val (.long db), .second, .val (.int (0 : Int32)), .val (.int (1 : Int32)), .val (.ref b23), .val (.int (0 : Int32)), .val (.int s2), .val (.int s3), .val (.int (1 : Int32)), .val (.int (1 : Int32)), .val (.int (1 : Int32)), .val (.int (1 : Int32)), .val (.long db), .second, .val (.long da), .second] [(.int (1 : Int32))]))
                refine Runs.by (fun _ hr => XS.goto X43.here hx rfl (pc0 := 295) (pc' := 299) rfl (hb hby at_295) (by decide) (by decide) hr) ?_
                show Runs p e below _ (T43.setTop (mkF m 299 #[.val (.long q0), .second, .val (.long q1), .second, .val (.int p2), .val (.int p3), .val (.int p4), .val (.long da), .second, .val (.long db), .second, .val (.int (0 : Int32)), .val (.int (1 : Int32)), .val (.ref b23), .val (.int (0 : Int32)), .val (.int s2), .val (.int s3), .val (.int (1 : Int32)), .val (.int (1 : Int32)), .val (.int (1 : Int32)), .val (.int (1 : Int32)), .val (.long db), .second, .val (.long da), .second] [(.int (1 : Int32))]))
                refine Runs.ret X43 hx hrt hlk (Or.inl ⟨rfl, by simp, _, rfl⟩) (by rfl) (hb hby at_299) (by decide) (by decide) ?_
                exact ⟨rfl, N43⟩
  · -- pc 22: not (p4 &&& (1 : Int32)) = (0 : Int32)
    refine Runs.by (fun _ hr => XS.ifNo X0.here hx rfl (hb hby at_22) rfl ((if0 _ _).trans (feq hc22).1) hr) ?_
    refine Runs.by (fun _ hr => XS.iconst X0.here hx rfl (hb hby at_25) hr) ?_
    show Runs p e below _ (s₁.setTop (mkF m 26 #[.val (.long q0), .second, .val (.long q1), .second, .val (.int p2), .val (.int p3), .val (.int p4), .val (.long da), .second, .val (.long db), .second, .unset, .unset, .unset, .unset, .unset, .unset, .unset, .unset, .unset, .unset, .unset, .unset, .unset, .unset] [(.int (1 : Int32))]))
    refine Runs.by (fun _ hr => XS.goto X0.here hx rfl (pc0 := 26) (pc' := 30) rfl (hb hby at_26) (by decide) (by decide) hr) ?_
    refine Runs.by (fun _ hr => XS.istore X0.here hx rfl (hb hby at_30) rfl (l' := #[.val (.long q0), .second, .val (.long q1), .second, .val (.int p2), .val (.int p3), .val (.int p4), .val (.long da), .second, .val (.long db), .second, .val (.int (1 : Int32)), .unset, .unset, .unset, .unset, .unset, .unset, .unset, .unset, .unset, .unset, .unset, .unset, .unset]) rfl hr) ?_
    refine Runs.by (fun _ hr => XS.iload X0.here hx rfl (hb hby at_32) rfl  hr) ?_
    show Runs p e below _ (s₁.setTop (mkF m 34 #[.val (.long q0), .second, .val (.long q1), .second, .val (.int p2), .val (.int p3), .val (.int p4), .val (.long da), .second, .val (.long db), .second, .val (.int (1 : Int32)), .unset, .unset, .unset, .unset, .unset, .unset, .unset, .unset, .unset, .unset, .unset, .unset, .unset] [(.int p4)]))
    refine Runs.by (fun _ hr => XS.iconst X0.here hx rfl (hb hby at_34) hr) ?_
    show Runs p e below _ (s₁.setTop (mkF m 35 #[.val (.long q0), .second, .val (.long q1), .second, .val (.int p2), .val (.int p3), .val (.int p4), .val (.long da), .second, .val (.long db), .second, .val (.int (1 : Int32)), .unset, .unset, .unset, .unset, .unset, .unset, .unset, .unset, .unset, .unset, .unset, .unset, .unset] [(.int (2 : Int32)), (.int p4)]))
    refine Runs.by (fun _ hr => XS.iand X0.here hx rfl (hb hby at_35) rfl hr) ?_
    by_cases hc36 : (p4 &&& (2 : Int32)) = (0 : Int32)
    · -- pc 36: (p4 &&& (2 : Int32)) = (0 : Int32)
      refine Runs.by (fun _ hr => XS.ifYes X0.here hx rfl (pc0 := 36) (pc' := 43) rfl (hb hby at_36) rfl ((if0 _ _).trans (teq hc36).1) (by decide) (by decide) hr) ?_
      refine Runs.by (fun _ hr => XS.iconst X0.here hx rfl (hb hby at_43) hr) ?_
      show Runs p e below _ (s₁.setTop (mkF m 44 #[.val (.long q0), .second, .val (.long q1), .second, .val (.int p2), .val (.int p3), .val (.int p4), .val (.long da), .second, .val (.long db), .second, .val (.int (1 : Int32)), .unset, .unset, .unset, .unset, .unset, .unset, .unset, .unset, .unset, .unset, .unset, .unset, .unset] [(.int (0 : Int32))]))
      refine Runs.by (fun _ hr => XS.istore X0.here hx rfl (hb hby at_44) rfl (l' := #[.val (.long q0), .second, .val (.long q1), .second, .val (.int p2), .val (.int p3), .val (.int p4), .val (.long da), .second, .val (.long db), .second, .val (.int (1 : Int32)), .val (.int (0 : Int32)), .unset, .unset, .unset, .unset, .unset, .unset, .unset, .unset, .unset, .unset, .unset, .unset]) rfl hr) ?_
      have cD1 : own_ct (own_D q0 da) := own_ctD cda
      have cD2 : own_ct (own_D q1 db) := own_ctD cdb
      show Runs p e below _ (s₁.setTop (mkF m 46 #[.val (.long q0), .second, .val (.long q1), .second, .val (.int p2), .val (.int p3), .val (.int p4), .val (.long da), .second, .val (.long db), .second, .val (.int (1 : Int32)), .val (.int (0 : Int32)), .unset, .unset, .unset, .unset, .unset, .unset, .unset, .unset, .unset, .unset, .unset, .unset] []))
      obtain ⟨T45, h45, X45, e45, E45, A45, D45, -, st45⟩ := newO X0 hx hZ hown (hw _ (List.mem_of_getElem? (i := 1) rfl)) (hw _ (List.mem_of_getElem? (i := 2) rfl)) (hw _ (List.mem_of_getElem? (i := 3) rfl)) e0 (g := (mkF m 46 #[.val (.long q0), .second, .val (.long q1), .second, .val (.int p2), .val (.int p3), .val (.int p4), .val (.long da), .second, .val (.long db), .second, .val (.int (1 : Int32)), .val (.int (0 : Int32)), .unset, .unset, .unset, .unset, .unset, .unset, .unset, .unset, .unset, .unset, .unset, .unset] [])) rfl (hb hby at_46) (by decide) (by decide)
      obtain ⟨b45, gz45⟩ : ∃ z, z = h0.size := ⟨_, rfl⟩
      rw [← gz45] at A45 D45 st45
      have g_b45 : n0 ≤ b45 := Nat.le_trans (Nat.le_trans Z0 K0.1) (Nat.le_of_eq gz45.symm)
      have sz_b45 : h0.size ≤ b45 := Nat.le_trans K0.1 (Nat.le_of_eq gz45.symm)
      have K46 : Keep h0 h45 [] := K0.ext E45
      have F_nanosPerStep_b45 : Fld Z h45 b45 "com/example/dialtone/dialtone/workload/Workers$Sharing" "nanosPerStep" "[D" .null := D45 (Or.inr (hw _ (List.mem_of_getElem? (i := 12) rfl))) (ty := (.array .double)) (by decide)
      have F_rounds_b45 : Fld Z h45 b45 "com/example/dialtone/dialtone/workload/Workers$Sharing" "rounds" "J" (.long (0 : Int64)) := D45 (Or.inl (hw _ (List.mem_of_getElem? (i := 19) rfl))) (ty := .long) (by decide)
      have F_otherWay_b45 : Fld Z h45 b45 "com/example/dialtone/dialtone/workload/Workers$Sharing" "otherWay" "Z" (.int (0 : Int32)) := D45 (Or.inl (hw _ (List.mem_of_getElem? (i := 21) rfl))) (ty := .boolean) (by decide)
      have F_started_b45 : Fld Z h45 b45 "com/example/dialtone/dialtone/workload/Workers$Sharing" "started" "J" (.long (0 : Int64)) := D45 (Or.inl (hw _ (List.mem_of_getElem? (i := 28) rfl))) (ty := .long) (by decide)
      have F_shared_b45 : Fld Z h45 b45 "com/example/dialtone/dialtone/workload/Workers$Sharing" "shared" "Z" (.int (0 : Int32)) := D45 (Or.inl (hw _ (List.mem_of_getElem? (i := 30) rfl))) (ty := .boolean) (by decide)
      have F_steps_b45 : Fld Z h45 b45 "com/example/dialtone/dialtone/workload/Workers$Sharing" "steps" "J" (.long (0 : Int64)) := D45 (Or.inl (hw _ (List.mem_of_getElem? (i := 32) rfl))) (ty := .long) (by decide)
      have F_sharedOverUnshared_b45 : Fld Z h45 b45 "com/example/dialtone/dialtone/workload/Workers$Sharing" "sharedOverUnshared" "D" (.double (0 : UInt64)) := D45 (Or.inl (hw _ (List.mem_of_getElem? (i := 47) rfl))) (ty := .double) (by decide)
      refine Runs.by st45 ?_
      refine Runs.by (fun _ hr => XS.dup X45.here hx rfl (hb hby at_49) rfl rfl hr) ?_
      show Runs p e below _ (T45.setTop (mkF m 50 #[.val (.long q0), .second, .val (.long q1), .second, .val (.int p2), .val (.int p3), .val (.int p4), .val (.long da), .second, .val (.long db), .second, .val (.int (1 : Int32)), .val (.int (0 : Int32)), .unset, .unset, .unset, .unset, .unset, .unset, .unset, .unset, .unset, .unset, .unset, .unset] [(.ref b45), (.ref b45)]))
      obtain ⟨_, _, ⟨T47, L47, k47, n47⟩, -, X47, ⟨Lc47, hQ47, l47, y47, z47⟩, st47⟩ := X45.specialBack hx (y := (⟨"com/example/dialtone/dialtone/workload/Workers$Sharing", "<init>", "()V"⟩ : MethodName)) rfl hown (mvT hZ (hw _ (List.mem_of_getElem? (i := 4) rfl))) (mvT hZ (hw _ (List.mem_of_getElem? (i := 5) rfl))) (mvT hZ (hw _ (List.mem_of_getElem? (i := 6) rfl))) (by decide) (backOf (W := 1) (rm1 l Z a0 hw [] b45  h45 n0 (Nat.le_trans Z0 K46.1) A45 g_b45 F_nanosPerStep_b45 F_rounds_b45 F_otherWay_b45 F_started_b45 F_shared_b45 F_steps_b45 F_sharedOverUnshared_b45) hZ (hw _ (List.mem_of_getElem? (i := 6) rfl)) (hw _ (List.mem_of_getElem? (i := 3) rfl)) (by decide) (by decide)) (g := (mkF m 50 #[.val (.long q0), .second, .val (.long q1), .second, .val (.int p2), .val (.int p3), .val (.int p4), .val (.long da), .second, .val (.long db), .second, .val (.int (1 : Int32)), .val (.int (0 : Int32)), .unset, .unset, .unset, .unset, .unset, .unset, .unset, .unset, .unset, .unset, .unset, .unset] [(.ref b45), (.ref b45)])) rfl (by rw [hml]; rfl) (Steps.refl _) (a := b45) (argsL := []) (rest := [(.ref b45)]) (lenOf pd_1 rfl) rfl (by show 2 * 0 + _ ≤ _; exact Nat.le_of_eq rfl) (hb hby at_50) (fun _ _ => ⟨rfl, e45, (by decide : 1 + 1 ≤ _), (by decide : 7 + 2 ≤ _)⟩)
      dsimp only [Pt.U, Pt.locs, Pt.cells, Pt.slots] at X47 l47 y47 z47 st47 hQ47
      subst l47 y47 z47
      obtain ⟨rfl, Nq47, Kq47, f47_0, t47, kt47, g_t47, szq_t47, neq_t47, f47_1, f47_2, f47_3, f47_4, f47_5, f47_6, f47_7, f47_8⟩ := hQ47
      have N47 := Fr.app N0 Nq47
      have ne_b45_t47 : b45 ≠ t47 := Nat.ne_of_lt (Nat.lt_of_lt_of_le A45.lt szq_t47)
      have sz_t47 : h0.size ≤ t47 := Nat.le_trans K46.1 szq_t47
      have K48 : Keep h0 T47.heap [] := Keep.trans (ws := []) K46 Kq47 (allS (Or.inr sz_b45) all0)
      refine Runs.by (fun _ hr => st47.trans hr) ?_
      refine Runs.by (fun _ hr => XS.astore X47.here hx rfl (hb hby at_53) rfl rfl (l' := #[.val (.long q0), .second, .val (.long q1), .second, .val (.int p2), .val (.int p3), .val (.int p4), .val (.long da), .second, .val (.long db), .second, .val (.int (1 : Int32)), .val (.int (0 : Int32)), .val (.ref b45), .unset, .unset, .unset, .unset, .unset, .unset, .unset, .unset, .unset, .unset, .unset]) rfl hr) ?_
      have VL0 : Arv Z T47.heap t47 kt47 .double (2 : Int32) [(.double (FP.l2d (0 : Int64))), (.double (FP.l2d (0 : Int64)))] (.double (0 : UInt64)) := by rw [own_l0z]; exact f47_8
      refine Runs.by (fun _ hr => XS.aload X47.here hx rfl (hb hby at_55) rfl rfl hr) ?_
      show Runs p e below _ (T47.setTop (mkF m 57 #[.val (.long q0), .second, .val (.long q1), .second, .val (.int p2), .val (.int p3), .val (.int p4), .val (.long da), .second, .val (.long db), .second, .val (.int (1 : Int32)), .val (.int (0 : Int32)), .val (.ref b45), .unset, .unset, .unset, .unset, .unset, .unset, .unset, .unset, .unset, .unset, .unset] [(.ref b45)]))
      obtain ⟨cq49, kq49, q49a, q49b, q49c⟩ := isOf hZ rfl f47_0
      obtain ⟨_, _, ⟨T49, L49, k49, n49⟩, -, X49, ⟨Lc49, hQ49, l49, y49, z49⟩, st49⟩ := X47.virtualBack hx (y := (⟨"com/example/dialtone/dialtone/workload/Workers$Sharing", "shares", "()Z"⟩ : MethodName)) (z := (⟨"com/example/dialtone/dialtone/workload/Workers$Sharing", "shares", "()Z"⟩ : MethodName)) hown (mvT hZ (hw _ (List.mem_of_getElem? (i := 13) rfl))) (mvT hZ (hw _ (List.mem_of_getElem? (i := 14) rfl))) (notFace_of_selects (args := #[]) (mvT hZ (hw _ (List.mem_of_getElem? (i := 16) rfl)))) (mvT hZ (hw _ (List.mem_of_getElem? (i := 16) rfl))) (mvT hZ (hw _ (List.mem_of_getElem? (i := 15) rfl))) (by decide) (backOf (W := 0) (rm3_0 l Z a0 hw [] b45 t47 kt47 (FP.l2d (0 : Int64)) (FP.l2d (0 : Int64)) (0 : UInt64) (0 : Int64) (0 : Int64) (0 : Int32) T47.heap n0 (Nat.le_trans Z0 K48.1) f47_0 g_b45 g_t47 (Ne.symm ne_b45_t47) f47_1 f47_2 f47_3 f47_4 f47_5 f47_6 f47_7 VL0 ) hZ (hw _ (List.mem_of_getElem? (i := 17) rfl)) (hw _ (List.mem_of_getElem? (i := 3) rfl)) (by decide) (by decide)) q49a q49c (g := (mkF m 57 #[.val (.long q0), .second, .val (.long q1), .second, .val (.int p2), .val (.int p3), .val (.int p4), .val (.long da), .second, .val (.long db), .second, .val (.int (1 : Int32)), .val (.int (0 : Int32)), .val (.ref b45), .unset, .unset, .unset, .unset, .unset, .unset, .unset, .unset, .unset, .unset, .unset] [(.ref b45)])) rfl (by rw [hml]; rfl) (Steps.refl _) (argsL := []) (rest := []) (lenOf pd_2 rfl) rfl (by show 2 * 0 + _ ≤ _; exact Nat.le_of_eq rfl) (hb hby at_57) (fun _ _ => ⟨rfl, rfl, (by decide : 2 + 0 ≤ _), (by decide : 9 + 0 ≤ _)⟩)
      dsimp only [Pt.U, Pt.locs, Pt.cells, Pt.slots] at X49 l49 y49 z49 st49 hQ49
      subst l49 y49 z49
      obtain ⟨rfl, Nq49, Kq49, f49_0, f49_1, f49_2, f49_3, f49_4, f49_5, f49_6, f49_7, f49_8⟩ := hQ49
      have N49 := Fr.app N47 Nq49
      have K50 : Keep h0 T49.heap [] := Keep.trans (ws := []) K48 Kq49 (allS (Or.inr sz_b45) all0)
      refine Runs.by (fun _ hr => st49.trans hr) ?_
      show Runs p e below _ (T49.setTop (mkF m 60 #[.val (.long q0), .second, .val (.long q1), .second, .val (.int p2), .val (.int p3), .val (.int p4), .val (.long da), .second, .val (.long db), .second, .val (.int (1 : Int32)), .val (.int (0 : Int32)), .val (.ref b45), .unset, .unset, .unset, .unset, .unset, .unset, .unset, .unset, .unset, .unset, .unset] [(.int (if (cmpValue (FP.dcmp (FP.l2d (0 : Int64)) FP.dconst0) .l) = (0 : Int32) then (0 : Int32) else if (cmpValue (FP.dcmp (FP.l2d (0 : Int64)) FP.dconst0) .l) = (0 : Int32) then (1 : Int32) else if (0 : Int32) < (cmpValue (FP.dcmp (0 : UInt64) (4606281698874543309 : UInt64)) .g) then (0 : Int32) else (1 : Int32)))]))
      rw [if_pos own_c00]
      refine Runs.by (fun _ hr => XS.istore X49.here hx rfl (hb hby at_60) rfl (l' := #[.val (.long q0), .second, .val (.long q1), .second, .val (.int p2), .val (.int p3), .val (.int p4), .val (.long da), .second, .val (.long db), .second, .val (.int (1 : Int32)), .val (.int (0 : Int32)), .val (.ref b45), .val (.int (0 : Int32)), .unset, .unset, .unset, .unset, .unset, .unset, .unset, .unset, .unset, .unset]) rfl hr) ?_
      refine Runs.by (fun _ hr => XS.aload X49.here hx rfl (hb hby at_62) rfl rfl hr) ?_
      show Runs p e below _ (T49.setTop (mkF m 64 #[.val (.long q0), .second, .val (.long q1), .second, .val (.int p2), .val (.int p3), .val (.int p4), .val (.long da), .second, .val (.long db), .second, .val (.int (1 : Int32)), .val (.int (0 : Int32)), .val (.ref b45), .val (.int (0 : Int32)), .unset, .unset, .unset, .unset, .unset, .unset, .unset, .unset, .unset, .unset] [(.ref b45)]))
      refine Runs.by (fun _ hr => XS.lloadN X49.here hx rfl (hb hby at_64) rfl  hr) ?_
      refine Runs.by (fun _ hr => XS.iload X49.here hx rfl (hb hby at_65) rfl  hr) ?_
      show Runs p e below _ (T49.setTop (mkF m 67 #[.val (.long q0), .second, .val (.long q1), .second, .val (.int p2), .val (.int p3), .val (.int p4), .val (.long da), .second, .val (.long db), .second, .val (.int (1 : Int32)), .val (.int (0 : Int32)), .val (.ref b45), .val (.int (0 : Int32)), .unset, .unset, .unset, .unset, .unset, .unset, .unset, .unset, .unset, .unset] [(.int (1 : Int32)), (.long q0), (.ref b45)]))
      obtain ⟨cq51, kq51, q51a, q51b, q51c⟩ := isOf hZ rfl f49_0
      obtain ⟨_, _, ⟨T51, L51, k51, n51⟩, -, X51, ⟨Lc51, hQ51, l51, y51, z51⟩, st51⟩ := X49.virtualBack hx (y := (⟨"com/example/dialtone/dialtone/workload/Workers$Sharing", "started", "(JZ)V"⟩ : MethodName)) (z := (⟨"com/example/dialtone/dialtone/workload/Workers$Sharing", "started", "(JZ)V"⟩ : MethodName)) hown (mvT hZ (hw _ (List.mem_of_getElem? (i := 22) rfl))) (mvT hZ (hw _ (List.mem_of_getElem? (i := 23) rfl))) (notFace_of_selects (args := #[]) (mvT hZ (hw _ (List.mem_of_getElem? (i := 25) rfl)))) (mvT hZ (hw _ (List.mem_of_getElem? (i := 25) rfl))) (mvT hZ (hw _ (List.mem_of_getElem? (i := 24) rfl))) (by decide) (backOf (W := 0) (rm4_1 l Z a0 hw [] b45 q0 t47 kt47 (FP.l2d (0 : Int64)) (FP.l2d (0 : Int64)) (0 : UInt64) (1 : Int64) (0 : Int64) (0 : Int64) (0 : Int32) T49.heap n0 (Nat.le_trans Z0 K50.1) f49_0 g_b45 g_t47 (Ne.symm ne_b45_t47) f49_1 f49_2 f49_3 f49_4 f49_5 f49_6 f49_7 f49_8 ) hZ (hw _ (List.mem_of_getElem? (i := 26) rfl)) (hw _ (List.mem_of_getElem? (i := 3) rfl)) (by decide) (by decide)) q51a q51c (g := (mkF m 67 #[.val (.long q0), .second, .val (.long q1), .second, .val (.int p2), .val (.int p3), .val (.int p4), .val (.long da), .second, .val (.long db), .second, .val (.int (1 : Int32)), .val (.int (0 : Int32)), .val (.ref b45), .val (.int (0 : Int32)), .unset, .unset, .unset, .unset, .unset, .unset, .unset, .unset, .unset, .unset] [(.int (1 : Int32)), (.long q0), (.ref b45)])) rfl (by rw [hml]; rfl) (Steps.refl _) (argsL := [(.long q0), (.int (1 : Int32))]) (rest := []) (lenOf pd_3 rfl) rfl (by show 2 * 0 + _ ≤ _; exact Nat.le_of_eq rfl) (hb hby at_67) (fun _ _ => ⟨rfl, rfl, (by decide : 2 + 0 ≤ _), (by decide : 9 + 0 ≤ _)⟩)
      dsimp only [Pt.U, Pt.locs, Pt.cells, Pt.slots] at X51 l51 y51 z51 st51 hQ51
      subst l51 y51 z51
      obtain ⟨rfl, Nq51, Kq51, f51_0, f51_1, f51_2, f51_3, f51_4, f51_5, f51_6, f51_7, f51_8⟩ := hQ51
      have N51 := Fr.app N49 Nq51
      have K52 : Keep h0 T51.heap [] := Keep.trans (ws := []) K50 Kq51 (allS (Or.inr sz_b45) all0)
      refine Runs.by (fun _ hr => st51.trans hr) ?_
      refine Runs.by (fun _ hr => XS.aload X51.here hx rfl (hb hby at_70) rfl rfl hr) ?_
      show Runs p e below _ (T51.setTop (mkF m 72 #[.val (.long q0), .second, .val (.long q1), .second, .val (.int p2), .val (.int p3), .val (.int p4), .val (.long da), .second, .val (.long db), .second, .val (.int (1 : Int32)), .val (.int (0 : Int32)), .val (.ref b45), .val (.int (0 : Int32)), .unset, .unset, .unset, .unset, .unset, .unset, .unset, .unset, .unset, .unset] [(.ref b45)]))
      obtain ⟨cq53, kq53, q53a, q53b, q53c⟩ := isOf hZ rfl f51_0
      obtain ⟨_, _, ⟨T53, L53, k53, n53⟩, -, X53, ⟨Lc53, hQ53, l53, y53, z53⟩, st53⟩ := X51.virtualBack hx (y := (⟨"com/example/dialtone/dialtone/workload/Workers$Sharing", "stepped", "()V"⟩ : MethodName)) (z := (⟨"com/example/dialtone/dialtone/workload/Workers$Sharing", "stepped", "()V"⟩ : MethodName)) hown (mvT hZ (hw _ (List.mem_of_getElem? (i := 33) rfl))) (mvT hZ (hw _ (List.mem_of_getElem? (i := 34) rfl))) (notFace_of_selects (args := #[]) (mvT hZ (hw _ (List.mem_of_getElem? (i := 36) rfl)))) (mvT hZ (hw _ (List.mem_of_getElem? (i := 36) rfl))) (mvT hZ (hw _ (List.mem_of_getElem? (i := 35) rfl))) (by decide) (backOf (W := 0) (rm5 l Z a0 hw [] b45 t47 kt47 (FP.l2d (0 : Int64)) (FP.l2d (0 : Int64)) (0 : UInt64) (1 : Int64) q0 (1 : Int32) T51.heap n0 (Nat.le_trans Z0 K52.1) f51_0 g_b45 g_t47 (Ne.symm ne_b45_t47) f51_1 f51_2 f51_3 f51_4 f51_5 f51_6 f51_7 f51_8 ) hZ (hw _ (List.mem_of_getElem? (i := 37) rfl)) (hw _ (List.mem_of_getElem? (i := 3) rfl)) (by decide) (by decide)) q53a q53c (g := (mkF m 72 #[.val (.long q0), .second, .val (.long q1), .second, .val (.int p2), .val (.int p3), .val (.int p4), .val (.long da), .second, .val (.long db), .second, .val (.int (1 : Int32)), .val (.int (0 : Int32)), .val (.ref b45), .val (.int (0 : Int32)), .unset, .unset, .unset, .unset, .unset, .unset, .unset, .unset, .unset, .unset] [(.ref b45)])) rfl (by rw [hml]; rfl) (Steps.refl _) (argsL := []) (rest := []) (lenOf pd_1 rfl) rfl (by show 2 * 0 + _ ≤ _; exact Nat.le_of_eq rfl) (hb hby at_72) (fun _ _ => ⟨rfl, rfl, (by decide : 2 + 0 ≤ _), (by decide : 9 + 0 ≤ _)⟩)
      dsimp only [Pt.U, Pt.locs, Pt.cells, Pt.slots] at X53 l53 y53 z53 st53 hQ53
      subst l53 y53 z53
      obtain ⟨rfl, Nq53, Kq53, f53_0, f53_1, f53_2, f53_3, f53_4, f53_5, f53_6, f53_7, f53_8⟩ := hQ53
      have N53 := Fr.app N51 Nq53
      have K54 : Keep h0 T53.heap [] := Keep.trans (ws := []) K52 Kq53 (allS (Or.inr sz_b45) all0)
      refine Runs.by (fun _ hr => st53.trans hr) ?_
      refine Runs.by (fun _ hr => XS.aload X53.here hx rfl (hb hby at_75) rfl rfl hr) ?_
      refine Runs.by (fun _ hr => XS.lloadN X53.here hx rfl (hb hby at_77) rfl  hr) ?_
      show Runs p e below _ (T53.setTop (mkF m 78 #[.val (.long q0), .second, .val (.long q1), .second, .val (.int p2), .val (.int p3), .val (.int p4), .val (.long da), .second, .val (.long db), .second, .val (.int (1 : Int32)), .val (.int (0 : Int32)), .val (.ref b45), .val (.int (0 : Int32)), .unset, .unset, .unset, .unset, .unset, .unset, .unset, .unset, .unset, .unset] [(.long q0), (.ref b45)]))
      refine Runs.by (fun _ hr => XS.lload X53.here hx rfl (hb hby at_78) rfl  hr) ?_
      refine Runs.by (fun _ hr => XS.ladd X53.here hx rfl (hb hby at_80) rfl hr) ?_
      show Runs p e below _ (T53.setTop (mkF m 81 #[.val (.long q0), .second, .val (.long q1), .second, .val (.int p2), .val (.int p3), .val (.int p4), .val (.long da), .second, .val (.long db), .second, .val (.int (1 : Int32)), .val (.int (0 : Int32)), .val (.ref b45), .val (.int (0 : Int32)), .unset, .unset, .unset, .unset, .unset, .unset, .unset, .unset, .unset, .unset] [(.long (q0 + da)), (.ref b45)]))
      obtain ⟨cq55, kq55, q55a, q55b, q55c⟩ := isOf hZ rfl f53_0
      obtain ⟨_, _, ⟨T55, L55, k55, n55⟩, -, X55, ⟨Lc55, hQ55, l55, y55, z55⟩, st55⟩ := X53.virtualBack hx (y := (⟨"com/example/dialtone/dialtone/workload/Workers$Sharing", "ended", "(J)V"⟩ : MethodName)) (z := (⟨"com/example/dialtone/dialtone/workload/Workers$Sharing", "ended", "(J)V"⟩ : MethodName)) hown (mvT hZ (hw _ (List.mem_of_getElem? (i := 38) rfl))) (mvT hZ (hw _ (List.mem_of_getElem? (i := 39) rfl))) (notFace_of_selects (args := #[]) (mvT hZ (hw _ (List.mem_of_getElem? (i := 41) rfl)))) (mvT hZ (hw _ (List.mem_of_getElem? (i := 41) rfl))) (mvT hZ (hw _ (List.mem_of_getElem? (i := 40) rfl))) (by decide) (backOf (W := 0) (rm6_1z l Z a0 hw [] b45 (q0 + da) t47 kt47 (1 : Int64) q0 da (0 : Int64) T53.heap n0 (Nat.le_trans Z0 K54.1) f53_0 g_b45 g_t47 (Ne.symm ne_b45_t47) f53_1 f53_2 f53_3 f53_4 f53_5 f53_6 f53_7 f53_8 (own_asub q0 da) cda own_ct0) hZ (hw _ (List.mem_of_getElem? (i := 42) rfl)) (hw _ (List.mem_of_getElem? (i := 3) rfl)) (by decide) (by decide)) q55a q55c (g := (mkF m 81 #[.val (.long q0), .second, .val (.long q1), .second, .val (.int p2), .val (.int p3), .val (.int p4), .val (.long da), .second, .val (.long db), .second, .val (.int (1 : Int32)), .val (.int (0 : Int32)), .val (.ref b45), .val (.int (0 : Int32)), .unset, .unset, .unset, .unset, .unset, .unset, .unset, .unset, .unset, .unset] [(.long (q0 + da)), (.ref b45)])) rfl (by rw [hml]; rfl) (Steps.refl _) (argsL := [(.long (q0 + da))]) (rest := []) (lenOf pd_4 rfl) rfl (by show 2 * 0 + _ ≤ _; exact Nat.le_of_eq rfl) (hb hby at_81) (fun _ _ => ⟨rfl, rfl, (by decide : 2 + 0 ≤ _), (by decide : 9 + 0 ≤ _)⟩)
      dsimp only [Pt.U, Pt.locs, Pt.cells, Pt.slots] at X55 l55 y55 z55 st55 hQ55
      subst l55 y55 z55
      obtain ⟨rfl, Nq55, Kq55, f55_0, f55_1, f55_2, f55_3, f55_4, f55_5, f55_6, f55_7, f55_8⟩ := hQ55
      have N55 := Fr.app N53 Nq55
      have K56 : Keep h0 T55.heap [] := Keep.trans (ws := []) K54 Kq55 (allS (Or.inr sz_b45) (allS (Or.inr sz_t47) all0))
      refine Runs.by (fun _ hr => st55.trans hr) ?_
      have FQ := f55_7
      rw [own_Q0] at FQ
      refine Runs.by (fun _ hr => XS.aload X55.here hx rfl (hb hby at_84) rfl rfl hr) ?_
      show Runs p e below _ (T55.setTop (mkF m 86 #[.val (.long q0), .second, .val (.long q1), .second, .val (.int p2), .val (.int p3), .val (.int p4), .val (.long da), .second, .val (.long db), .second, .val (.int (1 : Int32)), .val (.int (0 : Int32)), .val (.ref b45), .val (.int (0 : Int32)), .unset, .unset, .unset, .unset, .unset, .unset, .unset, .unset, .unset, .unset] [(.ref b45)]))
      obtain ⟨cq57, kq57, q57a, q57b, q57c⟩ := isOf hZ rfl f55_0
      obtain ⟨_, _, ⟨T57, L57, k57, n57⟩, -, X57, ⟨Lc57, hQ57, l57, y57, z57⟩, st57⟩ := X55.virtualBack hx (y := (⟨"com/example/dialtone/dialtone/workload/Workers$Sharing", "shares", "()Z"⟩ : MethodName)) (z := (⟨"com/example/dialtone/dialtone/workload/Workers$Sharing", "shares", "()Z"⟩ : MethodName)) hown (mvT hZ (hw _ (List.mem_of_getElem? (i := 13) rfl))) (mvT hZ (hw _ (List.mem_of_getElem? (i := 14) rfl))) (notFace_of_selects (args := #[]) (mvT hZ (hw _ (List.mem_of_getElem? (i := 16) rfl)))) (mvT hZ (hw _ (List.mem_of_getElem? (i := 16) rfl))) (mvT hZ (hw _ (List.mem_of_getElem? (i := 15) rfl))) (by decide) (backOf (W := 0) (rm3_1 l Z a0 hw [] b45 t47 kt47 (FP.l2d (0 : Int64)) (FP.l2d (own_D q0 da)) (0 : UInt64) (0 : Int64) (1 : Int64) (1 : Int32) T55.heap n0 (Nat.le_trans Z0 K56.1) f55_0 g_b45 g_t47 (Ne.symm ne_b45_t47) f55_1 f55_2 f55_3 f55_4 f55_5 f55_6 FQ f55_8 ) hZ (hw _ (List.mem_of_getElem? (i := 17) rfl)) (hw _ (List.mem_of_getElem? (i := 3) rfl)) (by decide) (by decide)) q57a q57c (g := (mkF m 86 #[.val (.long q0), .second, .val (.long q1), .second, .val (.int p2), .val (.int p3), .val (.int p4), .val (.long da), .second, .val (.long db), .second, .val (.int (1 : Int32)), .val (.int (0 : Int32)), .val (.ref b45), .val (.int (0 : Int32)), .unset, .unset, .unset, .unset, .unset, .unset, .unset, .unset, .unset, .unset] [(.ref b45)])) rfl (by rw [hml]; rfl) (Steps.refl _) (argsL := []) (rest := []) (lenOf pd_2 rfl) rfl (by show 2 * 0 + _ ≤ _; exact Nat.le_of_eq rfl) (hb hby at_86) (fun _ _ => ⟨rfl, rfl, (by decide : 2 + 0 ≤ _), (by decide : 9 + 0 ≤ _)⟩)
      dsimp only [Pt.U, Pt.locs, Pt.cells, Pt.slots] at X57 l57 y57 z57 st57 hQ57
      subst l57 y57 z57
      obtain ⟨rfl, Nq57, Kq57, f57_0, f57_1, f57_2, f57_3, f57_4, f57_5, f57_6, f57_7, f57_8⟩ := hQ57
      have N57 := Fr.app N55 Nq57
      have K58 : Keep h0 T57.heap [] := Keep.trans (ws := []) K56 Kq57 (allS (Or.inr sz_b45) all0)
      refine Runs.by (fun _ hr => st57.trans hr) ?_
      obtain ⟨s2, es2⟩ : ∃ z : Int32, z = (if (cmpValue (FP.dcmp (FP.l2d (0 : Int64)) FP.dconst0) .l) = (0 : Int32) then (0 : Int32) else if (cmpValue (FP.dcmp (FP.l2d (own_D q0 da)) FP.dconst0) .l) = (0 : Int32) then (1 : Int32) else if (0 : Int32) < (cmpValue (FP.dcmp (0 : UInt64) (4606281698874543309 : UInt64)) .g) then (0 : Int32) else (1 : Int32)) := ⟨_, rfl⟩
      show Runs p e below _ (T57.setTop (mkF m 89 #[.val (.long q0), .second, .val (.long q1), .second, .val (.int p2), .val (.int p3), .val (.int p4), .val (.long da), .second, .val (.long db), .second, .val (.int (1 : Int32)), .val (.int (0 : Int32)), .val (.ref b45), .val (.int (0 : Int32)), .unset, .unset, .unset, .unset, .unset, .unset, .unset, .unset, .unset, .unset] [(.int (if (cmpValue (FP.dcmp (FP.l2d (0 : Int64)) FP.dconst0) .l) = (0 : Int32) then (0 : Int32) else if (cmpValue (FP.dcmp (FP.l2d (own_D q0 da)) FP.dconst0) .l) = (0 : Int32) then (1 : Int32) else if (0 : Int32) < (cmpValue (FP.dcmp (0 : UInt64) (4606281698874543309 : UInt64)) .g) then (0 : Int32) else (1 : Int32)))]))
      rw [← es2]
      have hs2 : s2 = (0 : Int32) := es2.trans (own_s2_1 _ _)
      refine Runs.by (fun _ hr => XS.istore X57.here hx rfl (hb hby at_89) rfl (l' := #[.val (.long q0), .second, .val (.long q1), .second, .val (.int p2), .val (.int p3), .val (.int p4), .val (.long da), .second, .val (.long db), .second, .val (.int (1 : Int32)), .val (.int (0 : Int32)), .val (.ref b45), .val (.int (0 : Int32)), .val (.int s2), .unset, .unset, .unset, .unset, .unset, .unset, .unset, .unset, .unset]) rfl hr) ?_
      refine Runs.by (fun _ hr => XS.aload X57.here hx rfl (hb hby at_91) rfl rfl hr) ?_
      show Runs p e below _ (T57.setTop (mkF m 93 #[.val (.long q0), .second, .val (.long q1), .second, .val (.int p2), .val (.int p3), .val (.int p4), .val (.long da), .second, .val (.long db), .second, .val (.int (1 : Int32)), .val (.int (0 : Int32)), .val (.ref b45), .val (.int (0 : Int32)), .val (.int s2), .unset, .unset, .unset, .unset, .unset, .unset, .unset, .unset, .unset] [(.ref b45)]))
      refine Runs.by (fun _ hr => XS.lloadN X57.here hx rfl (hb hby at_93) rfl  hr) ?_
      refine Runs.by (fun _ hr => XS.iload X57.here hx rfl (hb hby at_94) rfl  hr) ?_
      show Runs p e below _ (T57.setTop (mkF m 96 #[.val (.long q0), .second, .val (.long q1), .second, .val (.int p2), .val (.int p3), .val (.int p4), .val (.long da), .second, .val (.long db), .second, .val (.int (1 : Int32)), .val (.int (0 : Int32)), .val (.ref b45), .val (.int (0 : Int32)), .val (.int s2), .unset, .unset, .unset, .unset, .unset, .unset, .unset, .unset, .unset] [(.int (0 : Int32)), (.long q1), (.ref b45)]))
      obtain ⟨cq59, kq59, q59a, q59b, q59c⟩ := isOf hZ rfl f57_0
      obtain ⟨_, _, ⟨T59, L59, k59, n59⟩, -, X59, ⟨Lc59, hQ59, l59, y59, z59⟩, st59⟩ := X57.virtualBack hx (y := (⟨"com/example/dialtone/dialtone/workload/Workers$Sharing", "started", "(JZ)V"⟩ : MethodName)) (z := (⟨"com/example/dialtone/dialtone/workload/Workers$Sharing", "started", "(JZ)V"⟩ : MethodName)) hown (mvT hZ (hw _ (List.mem_of_getElem? (i := 22) rfl))) (mvT hZ (hw _ (List.mem_of_getElem? (i := 23) rfl))) (notFace_of_selects (args := #[]) (mvT hZ (hw _ (List.mem_of_getElem? (i := 25) rfl)))) (mvT hZ (hw _ (List.mem_of_getElem? (i := 25) rfl))) (mvT hZ (hw _ (List.mem_of_getElem? (i := 24) rfl))) (by decide) (backOf (W := 0) (rm4_0 l Z a0 hw [] b45 q1 t47 kt47 (FP.l2d (0 : Int64)) (FP.l2d (own_D q0 da)) (0 : UInt64) (2 : Int64) (0 : Int64) (1 : Int64) (1 : Int32) T57.heap n0 (Nat.le_trans Z0 K58.1) f57_0 g_b45 g_t47 (Ne.symm ne_b45_t47) f57_1 f57_2 f57_3 f57_4 f57_5 f57_6 f57_7 f57_8 ) hZ (hw _ (List.mem_of_getElem? (i := 26) rfl)) (hw _ (List.mem_of_getElem? (i := 3) rfl)) (by decide) (by decide)) q59a q59c (g := (mkF m 96 #[.val (.long q0), .second, .val (.long q1), .second, .val (.int p2), .val (.int p3), .val (.int p4), .val (.long da), .second, .val (.long db), .second, .val (.int (1 : Int32)), .val (.int (0 : Int32)), .val (.ref b45), .val (.int (0 : Int32)), .val (.int s2), .unset, .unset, .unset, .unset, .unset, .unset, .unset, .unset, .unset] [(.int (0 : Int32)), (.long q1), (.ref b45)])) rfl (by rw [hml]; rfl) (Steps.refl _) (argsL := [(.long q1), (.int (0 : Int32))]) (rest := []) (lenOf pd_3 rfl) rfl (by show 2 * 0 + _ ≤ _; exact Nat.le_of_eq rfl) (hb hby at_96) (fun _ _ => ⟨rfl, rfl, (by decide : 2 + 0 ≤ _), (by decide : 9 + 0 ≤ _)⟩)
      dsimp only [Pt.U, Pt.locs, Pt.cells, Pt.slots] at X59 l59 y59 z59 st59 hQ59
      subst l59 y59 z59
      obtain ⟨rfl, Nq59, Kq59, f59_0, f59_1, f59_2, f59_3, f59_4, f59_5, f59_6, f59_7, f59_8⟩ := hQ59
      have N59 := Fr.app N57 Nq59
      have K60 : Keep h0 T59.heap [] := Keep.trans (ws := []) K58 Kq59 (allS (Or.inr sz_b45) all0)
      refine Runs.by (fun _ hr => st59.trans hr) ?_
      refine Runs.by (fun _ hr => XS.aload X59.here hx rfl (hb hby at_99) rfl rfl hr) ?_
      show Runs p e below _ (T59.setTop (mkF m 101 #[.val (.long q0), .second, .val (.long q1), .second, .val (.int p2), .val (.int p3), .val (.int p4), .val (.long da), .second, .val (.long db), .second, .val (.int (1 : Int32)), .val (.int (0 : Int32)), .val (.ref b45), .val (.int (0 : Int32)), .val (.int s2), .unset, .unset, .unset, .unset, .unset, .unset, .unset, .unset, .unset] [(.ref b45)]))
      obtain ⟨cq61, kq61, q61a, q61b, q61c⟩ := isOf hZ rfl f59_0
      obtain ⟨_, _, ⟨T61, L61, k61, n61⟩, -, X61, ⟨Lc61, hQ61, l61, y61, z61⟩, st61⟩ := X59.virtualBack hx (y := (⟨"com/example/dialtone/dialtone/workload/Workers$Sharing", "stepped", "()V"⟩ : MethodName)) (z := (⟨"com/example/dialtone/dialtone/workload/Workers$Sharing", "stepped", "()V"⟩ : MethodName)) hown (mvT hZ (hw _ (List.mem_of_getElem? (i := 33) rfl))) (mvT hZ (hw _ (List.mem_of_getElem? (i := 34) rfl))) (notFace_of_selects (args := #[]) (mvT hZ (hw _ (List.mem_of_getElem? (i := 36) rfl)))) (mvT hZ (hw _ (List.mem_of_getElem? (i := 36) rfl))) (mvT hZ (hw _ (List.mem_of_getElem? (i := 35) rfl))) (by decide) (backOf (W := 0) (rm5 l Z a0 hw [] b45 t47 kt47 (FP.l2d (0 : Int64)) (FP.l2d (own_D q0 da)) (0 : UInt64) (2 : Int64) q1 (0 : Int32) T59.heap n0 (Nat.le_trans Z0 K60.1) f59_0 g_b45 g_t47 (Ne.symm ne_b45_t47) f59_1 f59_2 f59_3 f59_4 f59_5 f59_6 f59_7 f59_8 ) hZ (hw _ (List.mem_of_getElem? (i := 37) rfl)) (hw _ (List.mem_of_getElem? (i := 3) rfl)) (by decide) (by decide)) q61a q61c (g := (mkF m 101 #[.val (.long q0), .second, .val (.long q1), .second, .val (.int p2), .val (.int p3), .val (.int p4), .val (.long da), .second, .val (.long db), .second, .val (.int (1 : Int32)), .val (.int (0 : Int32)), .val (.ref b45), .val (.int (0 : Int32)), .val (.int s2), .unset, .unset, .unset, .unset, .unset, .unset, .unset, .unset, .unset] [(.ref b45)])) rfl (by rw [hml]; rfl) (Steps.refl _) (argsL := []) (rest := []) (lenOf pd_1 rfl) rfl (by show 2 * 0 + _ ≤ _; exact Nat.le_of_eq rfl) (hb hby at_101) (fun _ _ => ⟨rfl, rfl, (by decide : 2 + 0 ≤ _), (by decide : 9 + 0 ≤ _)⟩)
      dsimp only [Pt.U, Pt.locs, Pt.cells, Pt.slots] at X61 l61 y61 z61 st61 hQ61
      subst l61 y61 z61
      obtain ⟨rfl, Nq61, Kq61, f61_0, f61_1, f61_2, f61_3, f61_4, f61_5, f61_6, f61_7, f61_8⟩ := hQ61
      have N61 := Fr.app N59 Nq61
      have K62 : Keep h0 T61.heap [] := Keep.trans (ws := []) K60 Kq61 (allS (Or.inr sz_b45) all0)
      refine Runs.by (fun _ hr => st61.trans hr) ?_
      refine Runs.by (fun _ hr => XS.aload X61.here hx rfl (hb hby at_104) rfl rfl hr) ?_
      refine Runs.by (fun _ hr => XS.lloadN X61.here hx rfl (hb hby at_106) rfl  hr) ?_
      show Runs p e below _ (T61.setTop (mkF m 107 #[.val (.long q0), .second, .val (.long q1), .second, .val (.int p2), .val (.int p3), .val (.int p4), .val (.long da), .second, .val (.long db), .second, .val (.int (1 : Int32)), .val (.int (0 : Int32)), .val (.ref b45), .val (.int (0 : Int32)), .val (.int s2), .unset, .unset, .unset, .unset, .unset, .unset, .unset, .unset, .unset] [(.long q1), (.ref b45)]))
      refine Runs.by (fun _ hr => XS.lload X61.here hx rfl (hb hby at_107) rfl  hr) ?_
      refine Runs.by (fun _ hr => XS.ladd X61.here hx rfl (hb hby at_109) rfl hr) ?_
      show Runs p e below _ (T61.setTop (mkF m 110 #[.val (.long q0), .second, .val (.long q1), .second, .val (.int p2), .val (.int p3), .val (.int p4), .val (.long da), .second, .val (.long db), .second, .val (.int (1 : Int32)), .val (.int (0 : Int32)), .val (.ref b45), .val (.int (0 : Int32)), .val (.int s2), .unset, .unset, .unset, .unset, .unset, .unset, .unset, .unset, .unset] [(.long (q1 + db)), (.ref b45)]))
      obtain ⟨cq63, kq63, q63a, q63b, q63c⟩ := isOf hZ rfl f61_0
      obtain ⟨_, _, ⟨T63, L63, k63, n63⟩, -, X63, ⟨Lc63, hQ63, l63, y63, z63⟩, st63⟩ := X61.virtualBack hx (y := (⟨"com/example/dialtone/dialtone/workload/Workers$Sharing", "ended", "(J)V"⟩ : MethodName)) (z := (⟨"com/example/dialtone/dialtone/workload/Workers$Sharing", "ended", "(J)V"⟩ : MethodName)) hown (mvT hZ (hw _ (List.mem_of_getElem? (i := 38) rfl))) (mvT hZ (hw _ (List.mem_of_getElem? (i := 39) rfl))) (notFace_of_selects (args := #[]) (mvT hZ (hw _ (List.mem_of_getElem? (i := 41) rfl)))) (mvT hZ (hw _ (List.mem_of_getElem? (i := 41) rfl))) (mvT hZ (hw _ (List.mem_of_getElem? (i := 40) rfl))) (by decide) (backOf (W := 0) (rm6_0z l Z a0 hw [] b45 (q1 + db) t47 kt47 (2 : Int64) q1 db (own_D q0 da) T61.heap n0 (Nat.le_trans Z0 K62.1) f61_0 g_b45 g_t47 (Ne.symm ne_b45_t47) f61_1 f61_2 f61_3 f61_4 f61_5 f61_6 f61_7 f61_8 (own_asub q1 db) cdb cD1) hZ (hw _ (List.mem_of_getElem? (i := 42) rfl)) (hw _ (List.mem_of_getElem? (i := 3) rfl)) (by decide) (by decide)) q63a q63c (g := (mkF m 110 #[.val (.long q0), .second, .val (.long q1), .second, .val (.int p2), .val (.int p3), .val (.int p4), .val (.long da), .second, .val (.long db), .second, .val (.int (1 : Int32)), .val (.int (0 : Int32)), .val (.ref b45), .val (.int (0 : Int32)), .val (.int s2), .unset, .unset, .unset, .unset, .unset, .unset, .unset, .unset, .unset] [(.long (q1 + db)), (.ref b45)])) rfl (by rw [hml]; rfl) (Steps.refl _) (argsL := [(.long (q1 + db))]) (rest := []) (lenOf pd_4 rfl) rfl (by show 2 * 0 + _ ≤ _; exact Nat.le_of_eq rfl) (hb hby at_110) (fun _ _ => ⟨rfl, rfl, (by decide : 2 + 0 ≤ _), (by decide : 9 + 0 ≤ _)⟩)
      dsimp only [Pt.U, Pt.locs, Pt.cells, Pt.slots] at X63 l63 y63 z63 st63 hQ63
      subst l63 y63 z63
      obtain ⟨rfl, Nq63, Kq63, f63_0, f63_1, f63_2, f63_3, f63_4, f63_5, f63_6, f63_7, f63_8⟩ := hQ63
      have N63 := Fr.app N61 Nq63
      have K64 : Keep h0 T63.heap [] := Keep.trans (ws := []) K62 Kq63 (allS (Or.inr sz_b45) (allS (Or.inr sz_t47) all0))
      refine Runs.by (fun _ hr => st63.trans hr) ?_
      refine Runs.by (fun _ hr => XS.aload X63.here hx rfl (hb hby at_113) rfl rfl hr) ?_
      show Runs p e below _ (T63.setTop (mkF m 115 #[.val (.long q0), .second, .val (.long q1), .second, .val (.int p2), .val (.int p3), .val (.int p4), .val (.long da), .second, .val (.long db), .second, .val (.int (1 : Int32)), .val (.int (0 : Int32)), .val (.ref b45), .val (.int (0 : Int32)), .val (.int s2), .unset, .unset, .unset, .unset, .unset, .unset, .unset, .unset, .unset] [(.ref b45)]))
      obtain ⟨cq65, kq65, q65a, q65b, q65c⟩ := isOf hZ rfl f63_0
      obtain ⟨_, _, ⟨T65, L65, k65, n65⟩, -, X65, ⟨Lc65, hQ65, l65, y65, z65⟩, st65⟩ := X63.virtualBack hx (y := (⟨"com/example/dialtone/dialtone/workload/Workers$Sharing", "shares", "()Z"⟩ : MethodName)) (z := (⟨"com/example/dialtone/dialtone/workload/Workers$Sharing", "shares", "()Z"⟩ : MethodName)) hown (mvT hZ (hw _ (List.mem_of_getElem? (i := 13) rfl))) (mvT hZ (hw _ (List.mem_of_getElem? (i := 14) rfl))) (notFace_of_selects (args := #[]) (mvT hZ (hw _ (List.mem_of_getElem? (i := 16) rfl)))) (mvT hZ (hw _ (List.mem_of_getElem? (i := 16) rfl))) (mvT hZ (hw _ (List.mem_of_getElem? (i := 15) rfl))) (by decide) (backOf (W := 0) (rm3_2 l Z a0 hw [] b45 t47 kt47 (FP.l2d (own_D q1 db)) (FP.l2d (own_D q0 da)) (own_Q q1 (own_D q0 da) (FP.ddiv (FP.l2d (own_D q0 da)) (FP.l2d (own_D q1 db)))) (0 : Int64) (1 : Int64) (0 : Int32) T63.heap n0 (Nat.le_trans Z0 K64.1) f63_0 g_b45 g_t47 (Ne.symm ne_b45_t47) f63_1 f63_2 f63_3 f63_4 f63_5 f63_6 f63_7 f63_8 ) hZ (hw _ (List.mem_of_getElem? (i := 17) rfl)) (hw _ (List.mem_of_getElem? (i := 3) rfl)) (by decide) (by decide)) q65a q65c (g := (mkF m 115 #[.val (.long q0), .second, .val (.long q1), .second, .val (.int p2), .val (.int p3), .val (.int p4), .val (.long da), .second, .val (.long db), .second, .val (.int (1 : Int32)), .val (.int (0 : Int32)), .val (.ref b45), .val (.int (0 : Int32)), .val (.int s2), .unset, .unset, .unset, .unset, .unset, .unset, .unset, .unset, .unset] [(.ref b45)])) rfl (by rw [hml]; rfl) (Steps.refl _) (argsL := []) (rest := []) (lenOf pd_2 rfl) rfl (by show 2 * 0 + _ ≤ _; exact Nat.le_of_eq rfl) (hb hby at_115) (fun _ _ => ⟨rfl, rfl, (by decide : 2 + 0 ≤ _), (by decide : 9 + 0 ≤ _)⟩)
      dsimp only [Pt.U, Pt.locs, Pt.cells, Pt.slots] at X65 l65 y65 z65 st65 hQ65
      subst l65 y65 z65
      obtain ⟨rfl, Nq65, Kq65, f65_0, f65_1, f65_2, f65_3, f65_4, f65_5, f65_6, f65_7, f65_8⟩ := hQ65
      have N65 := Fr.app N63 Nq65
      have K66 : Keep h0 T65.heap [] := Keep.trans (ws := []) K64 Kq65 (allS (Or.inr sz_b45) all0)
      refine Runs.by (fun _ hr => st65.trans hr) ?_
      obtain ⟨s3, es3⟩ : ∃ z : Int32, z = (if (cmpValue (FP.dcmp (FP.l2d (own_D q1 db)) FP.dconst0) .l) = (0 : Int32) then (0 : Int32) else if (cmpValue (FP.dcmp (FP.l2d (own_D q0 da)) FP.dconst0) .l) = (0 : Int32) then (1 : Int32) else if (0 : Int32) < (cmpValue (FP.dcmp (own_Q q1 (own_D q0 da) (FP.ddiv (FP.l2d (own_D q0 da)) (FP.l2d (own_D q1 db)))) (4606281698874543309 : UInt64)) .g) then (0 : Int32) else (1 : Int32)) := ⟨_, rfl⟩
      show Runs p e below _ (T65.setTop (mkF m 118 #[.val (.long q0), .second, .val (.long q1), .second, .val (.int p2), .val (.int p3), .val (.int p4), .val (.long da), .second, .val (.long db), .second, .val (.int (1 : Int32)), .val (.int (0 : Int32)), .val (.ref b45), .val (.int (0 : Int32)), .val (.int s2), .unset, .unset, .unset, .unset, .unset, .unset, .unset, .unset, .unset] [(.int (if (cmpValue (FP.dcmp (FP.l2d (own_D q1 db)) FP.dconst0) .l) = (0 : Int32) then (0 : Int32) else if (cmpValue (FP.dcmp (FP.l2d (own_D q0 da)) FP.dconst0) .l) = (0 : Int32) then (1 : Int32) else if (0 : Int32) < (cmpValue (FP.dcmp (own_Q q1 (own_D q0 da) (FP.ddiv (FP.l2d (own_D q0 da)) (FP.l2d (own_D q1 db)))) (4606281698874543309 : UInt64)) .g) then (0 : Int32) else (1 : Int32)))]))
      rw [← es3]
      have hs3 : s3 = (if (own_D q1 db) = 0 then (0 : Int32) else if (own_D q0 da) = 0 then (1 : Int32) else if 10 * (own_D q0 da).toInt ≤ 9 * (own_D q1 db).toInt then (1 : Int32) else (0 : Int32)) := es3.trans (own_s3_m cD2 cD1 (fun h0 h1 => own_Qv h0 h1))
      refine Runs.by (fun _ hr => XS.istore X65.here hx rfl (hb hby at_118) rfl (l' := #[.val (.long q0), .second, .val (.long q1), .second, .val (.int p2), .val (.int p3), .val (.int p4), .val (.long da), .second, .val (.long db), .second, .val (.int (1 : Int32)), .val (.int (0 : Int32)), .val (.ref b45), .val (.int (0 : Int32)), .val (.int s2), .val (.int s3), .unset, .unset, .unset, .unset, .unset, .unset, .unset, .unset]) rfl hr) ?_
      refine Runs.by (fun _ hr => XS.lloadN X65.here hx rfl (hb hby at_120) rfl  hr) ?_
      show Runs p e below _ (T65.setTop (mkF m 121 #[.val (.long q0), .second, .val (.long q1), .second, .val (.int p2), .val (.int p3), .val (.int p4), .val (.long da), .second, .val (.long db), .second, .val (.int (1 : Int32)), .val (.int (0 : Int32)), .val (.ref b45), .val (.int (0 : Int32)), .val (.int s2), .val (.int s3), .unset, .unset, .unset, .unset, .unset, .unset, .unset, .unset] [(.long q0)]))
      refine Runs.by (fun _ hr => XS.lconst X65.here hx rfl (hb hby at_121) hr) ?_
      refine Runs.by (fun _ hr => XS.lcmp X65.here hx rfl (hb hby at_122) rfl hr) ?_
      by_cases hc123 : (lcmpW q0 (0 : Int64)) = (0 : Int32)
      · -- pc 123: (lcmpW q0 (0 : Int64)) = (0 : Int32)
        refine Runs.by (fun _ hr => XS.ifYes X65.here hx rfl (pc0 := 123) (pc' := 137) rfl (hb hby at_123) rfl ((if0 _ _).trans (teq hc123).1) (by decide) (by decide) hr) ?_
        show Runs p e below _ (T65.setTop (mkF m 137 #[.val (.long q0), .second, .val (.long q1), .second, .val (.int p2), .val (.int p3), .val (.int p4), .val (.long da), .second, .val (.long db), .second, .val (.int (1 : Int32)), .val (.int (0 : Int32)), .val (.ref b45), .val (.int (0 : Int32)), .val (.int s2), .val (.int s3), .unset, .unset, .unset, .unset, .unset, .unset, .unset, .unset] []))
        refine Runs.by (fun _ hr => XS.iconst X65.here hx rfl (hb hby at_137) hr) ?_
        refine Runs.by (fun _ hr => XS.istore X65.here hx rfl (hb hby at_138) rfl (l' := #[.val (.long q0), .second, .val (.long q1), .second, .val (.int p2), .val (.int p3), .val (.int p4), .val (.long da), .second, .val (.long db), .second, .val (.int (1 : Int32)), .val (.int (0 : Int32)), .val (.ref b45), .val (.int (0 : Int32)), .val (.int s2), .val (.int s3), .val (.int (0 : Int32)), .unset, .unset, .unset, .unset, .unset, .unset, .unset]) rfl hr) ?_
        have zD1 : own_D q0 da = 0 := own_Dz1 (own_lcz.mp hc123)
        refine Runs.by (fun _ hr => XS.lloadN X65.here hx rfl (hb hby at_140) rfl  hr) ?_
        show Runs p e below _ (T65.setTop (mkF m 141 #[.val (.long q0), .second, .val (.long q1), .second, .val (.int p2), .val (.int p3), .val (.int p4), .val (.long da), .second, .val (.long db), .second, .val (.int (1 : Int32)), .val (.int (0 : Int32)), .val (.ref b45), .val (.int (0 : Int32)), .val (.int s2), .val (.int s3), .val (.int (0 : Int32)), .unset, .unset, .unset, .unset, .unset, .unset, .unset] [(.long q1)]))
        refine Runs.by (fun _ hr => XS.lconst X65.here hx rfl (hb hby at_141) hr) ?_
        refine Runs.by (fun _ hr => XS.lcmp X65.here hx rfl (hb hby at_142) rfl hr) ?_
        by_cases hc143 : (lcmpW q1 (0 : Int64)) = (0 : Int32)
        · -- pc 143: (lcmpW q1 (0 : Int64)) = (0 : Int32)
          refine Runs.by (fun _ hr => XS.ifYes X65.here hx rfl (pc0 := 143) (pc' := 157) rfl (hb hby at_143) rfl ((if0 _ _).trans (teq hc143).1) (by decide) (by decide) hr) ?_
          show Runs p e below _ (T65.setTop (mkF m 157 #[.val (.long q0), .second, .val (.long q1), .second, .val (.int p2), .val (.int p3), .val (.int p4), .val (.long da), .second, .val (.long db), .second, .val (.int (1 : Int32)), .val (.int (0 : Int32)), .val (.ref b45), .val (.int (0 : Int32)), .val (.int s2), .val (.int s3), .val (.int (0 : Int32)), .unset, .unset, .unset, .unset, .unset, .unset, .unset] []))
          refine Runs.by (fun _ hr => XS.iconst X65.here hx rfl (hb hby at_157) hr) ?_
          refine Runs.by (fun _ hr => XS.istore X65.here hx rfl (hb hby at_158) rfl (l' := #[.val (.long q0), .second, .val (.long q1), .second, .val (.int p2), .val (.int p3), .val (.int p4), .val (.long da), .second, .val (.long db), .second, .val (.int (1 : Int32)), .val (.int (0 : Int32)), .val (.ref b45), .val (.int (0 : Int32)), .val (.int s2), .val (.int s3), .val (.int (0 : Int32)), .val (.int (0 : Int32)), .unset, .unset, .unset, .unset, .unset, .unset]) rfl hr) ?_
          have zD2 : own_D q1 db = 0 := own_Dz1 (own_lcz.mp hc143)
          refine Runs.by (fun _ hr => XS.iload X65.here hx rfl (hb hby at_160) rfl  hr) ?_
          show Runs p e below _ (T65.setTop (mkF m 162 #[.val (.long q0), .second, .val (.long q1), .second, .val (.int p2), .val (.int p3), .val (.int p4), .val (.long da), .second, .val (.long db), .second, .val (.int (1 : Int32)), .val (.int (0 : Int32)), .val (.ref b45), .val (.int (0 : Int32)), .val (.int s2), .val (.int s3), .val (.int (0 : Int32)), .val (.int (0 : Int32)), .unset, .unset, .unset, .unset, .unset, .unset] [(.int (0 : Int32))]))
          have hc162 : (0 : Int32) = (0 : Int32) := (by decide)
          refine Runs.by (fun _ hr => XS.ifYes X65.here hx rfl (pc0 := 162) (pc' := 174) rfl (hb hby at_162) rfl ((if0 _ _).trans (teq hc162).1) (by decide) (by decide) hr) ?_
          refine Runs.by (fun _ hr => XS.iconst X65.here hx rfl (hb hby at_174) hr) ?_
          refine Runs.by (fun _ hr => XS.istore X65.here hx rfl (hb hby at_175) rfl (l' := #[.val (.long q0), .second, .val (.long q1), .second, .val (.int p2), .val (.int p3), .val (.int p4), .val (.long da), .second, .val (.long db), .second, .val (.int (1 : Int32)), .val (.int (0 : Int32)), .val (.ref b45), .val (.int (0 : Int32)), .val (.int s2), .val (.int s3), .val (.int (0 : Int32)), .val (.int (0 : Int32)), .val (.int (0 : Int32)), .unset, .unset, .unset, .unset, .unset]) rfl hr) ?_
          show Runs p e below _ (T65.setTop (mkF m 177 #[.val (.long q0), .second, .val (.long q1), .second, .val (.int p2), .val (.int p3), .val (.int p4), .val (.long da), .second, .val (.long db), .second, .val (.int (1 : Int32)), .val (.int (0 : Int32)), .val (.ref b45), .val (.int (0 : Int32)), .val (.int s2), .val (.int s3), .val (.int (0 : Int32)), .val (.int (0 : Int32)), .val (.int (0 : Int32)), .unset, .unset, .unset, .unset, .unset] []))
          refine Runs.by (fun _ hr => XS.iload X65.here hx rfl (hb hby at_177) rfl  hr) ?_
          have hc179 : (0 : Int32) = (0 : Int32) := (by decide)
          refine Runs.by (fun _ hr => XS.ifYes X65.here hx rfl (pc0 := 179) (pc' := 248) rfl (hb hby at_179) rfl ((if0 _ _).trans (teq hc179).1) (by decide) (by decide) hr) ?_
          refine Runs.by (fun _ hr => XS.iload X65.here hx rfl (hb hby at_248) rfl  hr) ?_
          show Runs p e below _ (T65.setTop (mkF m 250 #[.val (.long q0), .second, .val (.long q1), .second, .val (.int p2), .val (.int p3), .val (.int p4), .val (.long da), .second, .val (.long db), .second, .val (.int (1 : Int32)), .val (.int (0 : Int32)), .val (.ref b45), .val (.int (0 : Int32)), .val (.int s2), .val (.int s3), .val (.int (0 : Int32)), .val (.int (0 : Int32)), .val (.int (0 : Int32)), .unset, .unset, .unset, .unset, .unset] [(.int (0 : Int32))]))
          have hc250 : (0 : Int32) = (0 : Int32) := (by decide)
          refine Runs.by (fun _ hr => XS.ifYes X65.here hx rfl (pc0 := 250) (pc' := 258) rfl (hb hby at_250) rfl ((if0 _ _).trans (teq hc250).1) (by decide) (by decide) hr) ?_
          refine Runs.by (fun _ hr => XS.iload X65.here hx rfl (hb hby at_258) rfl  hr) ?_
          have hc260 : (0 : Int32) = (0 : Int32) := (by decide)
          refine Runs.by (fun _ hr => XS.ifYes X65.here hx rfl (pc0 := 260) (pc' := 272) rfl (hb hby at_260) rfl ((if0 _ _).trans (teq hc260).1) (by decide) (by decide) hr) ?_
          show Runs p e below _ (T65.setTop (mkF m 272 #[.val (.long q0), .second, .val (.long q1), .second, .val (.int p2), .val (.int p3), .val (.int p4), .val (.long da), .second, .val (.long db), .second, .val (.int (1 : Int32)), .val (.int (0 : Int32)), .val (.ref b45), .val (.int (0 : Int32)), .val (.int s2), .val (.int s3), .val (.int (0 : Int32)), .val (.int (0 : Int32)), .val (.int (0 : Int32)), .unset, .unset, .unset, .unset, .unset] []))
          refine Runs.by (fun _ hr => XS.iconst X65.here hx rfl (hb hby at_272) hr) ?_
          refine Runs.by (fun _ hr => XS.istore X65.here hx rfl (hb hby at_273) rfl (l' := #[.val (.long q0), .second, .val (.long q1), .second, .val (.int p2), .val (.int p3), .val (.int p4), .val (.long da), .second, .val (.long db), .second, .val (.int (1 : Int32)), .val (.int (0 : Int32)), .val (.ref b45), .val (.int (0 : Int32)), .val (.int s2), .val (.int s3), .val (.int (0 : Int32)), .val (.int (0 : Int32)), .val (.int (0 : Int32)), .val (.int (0 : Int32)), .unset, .unset, .unset, .unset]) rfl hr) ?_
          refine Runs.by (fun _ hr => XS.iload X65.here hx rfl (hb hby at_275) rfl  hr) ?_
          show Runs p e below _ (T65.setTop (mkF m 277 #[.val (.long q0), .second, .val (.long q1), .second, .val (.int p2), .val (.int p3), .val (.int p4), .val (.long da), .second, .val (.long db), .second, .val (.int (1 : Int32)), .val (.int (0 : Int32)), .val (.ref b45), .val (.int (0 : Int32)), .val (.int s2), .val (.int s3), .val (.int (0 : Int32)), .val (.int (0 : Int32)), .val (.int (0 : Int32)), .val (.int (0 : Int32)), .unset, .unset, .unset, .unset] [(.int (0 : Int32))]))
          have hc277 : (0 : Int32) = (0 : Int32) := (by decide)
          refine Runs.by (fun _ hr => XS.ifNo X65.here hx rfl (hb hby at_277) rfl ((if0 _ _).trans (teq hc277).2) hr) ?_
          refine Runs.by (fun _ hr => XS.iload X65.here hx rfl (hb hby at_280) rfl  hr) ?_
          refine Runs.by (fun _ hr => XS.iload X65.here hx rfl (hb hby at_282) rfl  hr) ?_
          show Runs p e below _ (T65.setTop (mkF m 284 #[.val (.long q0), .second, .val (.long q1), .second, .val (.int p2), .val (.int p3), .val (.int p4), .val (.long da), .second, .val (.long db), .second, .val (.int (1 : Int32)), .val (.int (0 : Int32)), .val (.ref b45), .val (.int (0 : Int32)), .val (.int s2), .val (.int s3), .val (.int (0 : Int32)), .val (.int (0 : Int32)), .val (.int (0 : Int32)), .val (.int (0 : Int32)), .unset, .unset, .unset, .unset] [(.int (0 : Int32)), (.int s2)]))
          have hc284 : s2 = (0 : Int32) := hs2
          refine Runs.by (fun _ hr => XS.icmpNo X65.here hx rfl (hb hby at_284) rfl (teq hc284).2 hr) ?_
          refine Runs.by (fun _ hr => XS.iload X65.here hx rfl (hb hby at_287) rfl  hr) ?_
          refine Runs.by (fun _ hr => XS.iload X65.here hx rfl (hb hby at_289) rfl  hr) ?_
          show Runs p e below _ (T65.setTop (mkF m 291 #[.val (.long q0), .second, .val (.long q1), .second, .val (.int p2), .val (.int p3), .val (.int p4), .val (.long da), .second, .val (.long db), .second, .val (.int (1 : Int32)), .val (.int (0 : Int32)), .val (.ref b45), .val (.int (0 : Int32)), .val (.int s2), .val (.int s3), .val (.int (0 : Int32)), .val (.int (0 : Int32)), .val (.int (0 : Int32)), .val (.int (0 : Int32)), .unset, .unset, .unset, .unset] [(.int (0 : Int32)), (.int s3)]))
          have hc291 : s3 = (0 : Int32) := (by simp [hs3, zD1, zD2])
          refine Runs.by (fun _ hr => XS.icmpNo X65.here hx rfl (hb hby at_291) rfl (teq hc291).2 hr) ?_
          refine Runs.by (fun _ hr => XS.iconst X65.here hx rfl (hb hby at_294) hr) ?_
          refine Runs.by (fun _ hr => XS.goto X65.here hx rfl (pc0 := 295) (pc' := 299) rfl (hb hby at_295) (by decide) (by decide) hr) ?_
          show Runs p e below _ (T65.setTop (mkF m 299 #[.val (.long q0), .second, .val (.long q1), .second, .val (.int p2), .val (.int p3), .val (.int p4), .val (.long da), .second, .val (.long db), .second, .val (.int (1 : Int32)), .val (.int (0 : Int32)), .val (.ref b45), .val (.int (0 : Int32)), .val (.int s2), .val (.int s3), .val (.int (0 : Int32)), .val (.int (0 : Int32)), .val (.int (0 : Int32)), .val (.int (0 : Int32)), .unset, .unset, .unset, .unset] [(.int (1 : Int32))]))
          refine Runs.ret X65 hx hrt hlk (Or.inl ⟨rfl, by simp, _, rfl⟩) (by rfl) (hb hby at_299) (by decide) (by decide) ?_
          exact ⟨rfl, N65⟩
        · -- pc 143: not (lcmpW q1 (0 : Int64)) = (0 : Int32)
          refine Runs.by (fun _ hr => XS.ifNo X65.here hx rfl (hb hby at_143) rfl ((if0 _ _).trans (feq hc143).1) hr) ?_
          show Runs p e below _ (T65.setTop (mkF m 146 #[.val (.long q0), .second, .val (.long q1), .second, .val (.int p2), .val (.int p3), .val (.int p4), .val (.long da), .second, .val (.long db), .second, .val (.int (1 : Int32)), .val (.int (0 : Int32)), .val (.ref b45), .val (.int (0 : Int32)), .val (.int s2), .val (.int s3), .val (.int (0 : Int32)), .unset, .unset, .unset, .unset, .unset, .unset, .unset] []))
          refine Runs.by (fun _ hr => XS.lload X65.here hx rfl (hb hby at_146) rfl  hr) ?_
          refine Runs.by (fun _ hr => XS.lconst X65.here hx rfl (hb hby at_148) hr) ?_
          refine Runs.by (fun _ hr => XS.lcmp X65.here hx rfl (hb hby at_149) rfl hr) ?_
          show Runs p e below _ (T65.setTop (mkF m 150 #[.val (.long q0), .second, .val (.long q1), .second, .val (.int p2), .val (.int p3), .val (.int p4), .val (.long da), .second, .val (.long db), .second, .val (.int (1 : Int32)), .val (.int (0 : Int32)), .val (.ref b45), .val (.int (0 : Int32)), .val (.int s2), .val (.int s3), .val (.int (0 : Int32)), .unset, .unset, .unset, .unset, .unset, .unset, .unset] [(.int (lcmpW db (0 : Int64)))]))
          by_cases hc150 : (lcmpW db (0 : Int64)) = (0 : Int32)
          · -- pc 150: (lcmpW db (0 : Int64)) = (0 : Int32)
            refine Runs.by (fun _ hr => XS.ifYes X65.here hx rfl (pc0 := 150) (pc' := 157) rfl (hb hby at_150) rfl ((if0 _ _).trans (teq hc150).1) (by decide) (by decide) hr) ?_
            refine Runs.by (fun _ hr => XS.iconst X65.here hx rfl (hb hby at_157) hr) ?_
            refine Runs.by (fun _ hr => XS.istore X65.here hx rfl (hb hby at_158) rfl (l' := #[.val (.long q0), .second, .val (.long q1), .second, .val (.int p2), .val (.int p3), .val (.int p4), .val (.long da), .second, .val (.long db), .second, .val (.int (1 : Int32)), .val (.int (0 : Int32)), .val (.ref b45), .val (.int (0 : Int32)), .val (.int s2), .val (.int s3), .val (.int (0 : Int32)), .val (.int (0 : Int32)), .unset, .unset, .unset, .unset, .unset, .unset]) rfl hr) ?_
            have zD2 : own_D q1 db = 0 := own_Dz2 (own_lcz.mp hc150)
            show Runs p e below _ (T65.setTop (mkF m 160 #[.val (.long q0), .second, .val (.long q1), .second, .val (.int p2), .val (.int p3), .val (.int p4), .val (.long da), .second, .val (.long db), .second, .val (.int (1 : Int32)), .val (.int (0 : Int32)), .val (.ref b45), .val (.int (0 : Int32)), .val (.int s2), .val (.int s3), .val (.int (0 : Int32)), .val (.int (0 : Int32)), .unset, .unset, .unset, .unset, .unset, .unset] []))
            refine Runs.by (fun _ hr => XS.iload X65.here hx rfl (hb hby at_160) rfl  hr) ?_
            have hc162 : (0 : Int32) = (0 : Int32) := (by decide)
            refine Runs.by (fun _ hr => XS.ifYes X65.here hx rfl (pc0 := 162) (pc' := 174) rfl (hb hby at_162) rfl ((if0 _ _).trans (teq hc162).1) (by decide) (by decide) hr) ?_
            refine Runs.by (fun _ hr => XS.iconst X65.here hx rfl (hb hby at_174) hr) ?_
            show Runs p e below _ (T65.setTop (mkF m 175 #[.val (.long q0), .second, .val (.long q1), .second, .val (.int p2), .val (.int p3), .val (.int p4), .val (.long da), .second, .val (.long db), .second, .val (.int (1 : Int32)), .val (.int (0 : Int32)), .val (.ref b45), .val (.int (0 : Int32)), .val (.int s2), .val (.int s3), .val (.int (0 : Int32)), .val (.int (0 : Int32)), .unset, .unset, .unset, .unset, .unset, .unset] [(.int (0 : Int32))]))
            refine Runs.by (fun _ hr => XS.istore X65.here hx rfl (hb hby at_175) rfl (l' := #[.val (.long q0), .second, .val (.long q1), .second, .val (.int p2), .val (.int p3), .val (.int p4), .val (.long da), .second, .val (.long db), .second, .val (.int (1 : Int32)), .val (.int (0 : Int32)), .val (.ref b45), .val (.int (0 : Int32)), .val (.int s2), .val (.int s3), .val (.int (0 : Int32)), .val (.int (0 : Int32)), .val (.int (0 : Int32)), .unset, .unset, .unset, .unset, .unset]) rfl hr) ?_
            refine Runs.by (fun _ hr => XS.iload X65.here hx rfl (hb hby at_177) rfl  hr) ?_
            have hc179 : (0 : Int32) = (0 : Int32) := (by decide)
            refine Runs.by (fun _ hr => XS.ifYes X65.here hx rfl (pc0 := 179) (pc' := 248) rfl (hb hby at_179) rfl ((if0 _ _).trans (teq hc179).1) (by decide) (by decide) hr) ?_
            show Runs p e below _ (T65.setTop (mkF m 248 #[.val (.long q0), .second, .val (.long q1), .second, .val (.int p2), .val (.int p3), .val (.int p4), .val (.long da), .second, .val (.long db), .second, .val (.int (1 : Int32)), .val (.int (0 : Int32)), .val (.ref b45), .val (.int (0 : Int32)), .val (.int s2), .val (.int s3), .val (.int (0 : Int32)), .val (.int (0 : Int32)), .val (.int (0 : Int32)), .unset, .unset, .unset, .unset, .unset] []))
            refine Runs.by (fun _ hr => XS.iload X65.here hx rfl (hb hby at_248) rfl  hr) ?_
            have hc250 : (0 : Int32) = (0 : Int32) := (by decide)
            refine Runs.by (fun _ hr => XS.ifYes X65.here hx rfl (pc0 := 250) (pc' := 258) rfl (hb hby at_250) rfl ((if0 _ _).trans (teq hc250).1) (by decide) (by decide) hr) ?_
            refine Runs.by (fun _ hr => XS.iload X65.here hx rfl (hb hby at_258) rfl  hr) ?_
            show Runs p e below _ (T65.setTop (mkF m 260 #[.val (.long q0), .second, .val (.long q1), .second, .val (.int p2), .val (.int p3), .val (.int p4), .val (.long da), .second, .val (.long db), .second, .val (.int (1 : Int32)), .val (.int (0 : Int32)), .val (.ref b45), .val (.int (0 : Int32)), .val (.int s2), .val (.int s3), .val (.int (0 : Int32)), .val (.int (0 : Int32)), .val (.int (0 : Int32)), .unset, .unset, .unset, .unset, .unset] [(.int (0 : Int32))]))
            have hc260 : (0 : Int32) = (0 : Int32) := (by decide)
            refine Runs.by (fun _ hr => XS.ifYes X65.here hx rfl (pc0 := 260) (pc' := 272) rfl (hb hby at_260) rfl ((if0 _ _).trans (teq hc260).1) (by decide) (by decide) hr) ?_
            refine Runs.by (fun _ hr => XS.iconst X65.here hx rfl (hb hby at_272) hr) ?_
            refine Runs.by (fun _ hr => XS.istore X65.here hx rfl (hb hby at_273) rfl (l' := #[.val (.long q0), .second, .val (.long q1), .second, .val (.int p2), .val (.int p3), .val (.int p4), .val (.long da), .second, .val (.long db), .second, .val (.int (1 : Int32)), .val (.int (0 : Int32)), .val (.ref b45), .val (.int (0 : Int32)), .val (.int s2), .val (.int s3), .val (.int (0 : Int32)), .val (.int (0 : Int32)), .val (.int (0 : Int32)), .val (.int (0 : Int32)), .unset, .unset, .unset, .unset]) rfl hr) ?_
            show Runs p e below _ (T65.setTop (mkF m 275 #[.val (.long q0), .second, .val (.long q1), .second, .val (.int p2), .val (.int p3), .val (.int p4), .val (.long da), .second, .val (.long db), .second, .val (.int (1 : Int32)), .val (.int (0 : Int32)), .val (.ref b45), .val (.int (0 : Int32)), .val (.int s2), .val (.int s3), .val (.int (0 : Int32)), .val (.int (0 : Int32)), .val (.int (0 : Int32)), .val (.int (0 : Int32)), .unset, .unset, .unset, .unset] []))
            refine Runs.by (fun _ hr => XS.iload X65.here hx rfl (hb hby at_275) rfl  hr) ?_
            have hc277 : (0 : Int32) = (0 : Int32) := (by decide)
            refine Runs.by (fun _ hr => XS.ifNo X65.here hx rfl (hb hby at_277) rfl ((if0 _ _).trans (teq hc277).2) hr) ?_
            refine Runs.by (fun _ hr => XS.iload X65.here hx rfl (hb hby at_280) rfl  hr) ?_
            show Runs p e below _ (T65.setTop (mkF m 282 #[.val (.long q0), .second, .val (.long q1), .second, .val (.int p2), .val (.int p3), .val (.int p4), .val (.long da), .second, .val (.long db), .second, .val (.int (1 : Int32)), .val (.int (0 : Int32)), .val (.ref b45), .val (.int (0 : Int32)), .val (.int s2), .val (.int s3), .val (.int (0 : Int32)), .val (.int (0 : Int32)), .val (.int (0 : Int32)), .val (.int (0 : Int32)), .unset, .unset, .unset, .unset] [(.int s2)]))
            refine Runs.by (fun _ hr => XS.iload X65.here hx rfl (hb hby at_282) rfl  hr) ?_
            have hc284 : s2 = (0 : Int32) := hs2
            refine Runs.by (fun _ hr => XS.icmpNo X65.here hx rfl (hb hby at_284) rfl (teq hc284).2 hr) ?_
            refine Runs.by (fun _ hr => XS.iload X65.here hx rfl (hb hby at_287) rfl  hr) ?_
            show Runs p e below _ (T65.setTop (mkF m 289 #[.val (.long q0), .second, .val (.long q1), .second, .val (.int p2), .val (.int p3), .val (.int p4), .val (.long da), .second, .val (.long db), .second, .val (.int (1 : Int32)), .val (.int (0 : Int32)), .val (.ref b45), .val (.int (0 : Int32)), .val (.int s2), .val (.int s3), .val (.int (0 : Int32)), .val (.int (0 : Int32)), .val (.int (0 : Int32)), .val (.int (0 : Int32)), .unset, .unset, .unset, .unset] [(.int s3)]))
            refine Runs.by (fun _ hr => XS.iload X65.here hx rfl (hb hby at_289) rfl  hr) ?_
            have hc291 : s3 = (0 : Int32) := (by simp [hs3, zD1, zD2])
            refine Runs.by (fun _ hr => XS.icmpNo X65.here hx rfl (hb hby at_291) rfl (teq hc291).2 hr) ?_
            refine Runs.by (fun _ hr => XS.iconst X65.here hx rfl (hb hby at_294) hr) ?_
            show Runs p e below _ (T65.setTop (mkF m 295 #[.val (.long q0), .second, .val (.long q1), .second, .val (.int p2), .val (.int p3), .val (.int p4), .val (.long da), .second, .val (.long db), .second, .val (.int (1 : Int32)), .val (.int (0 : Int32)), .val (.ref b45), .val (.int (0 : Int32)), .val (.int s2), .val (.int s3), .val (.int (0 : Int32)), .val (.int (0 : Int32)), .val (.int (0 : Int32)), .val (.int (0 : Int32)), .unset, .unset, .unset, .unset] [(.int (1 : Int32))]))
            refine Runs.by (fun _ hr => XS.goto X65.here hx rfl (pc0 := 295) (pc' := 299) rfl (hb hby at_295) (by decide) (by decide) hr) ?_
            show Runs p e below _ (T65.setTop (mkF m 299 #[.val (.long q0), .second, .val (.long q1), .second, .val (.int p2), .val (.int p3), .val (.int p4), .val (.long da), .second, .val (.long db), .second, .val (.int (1 : Int32)), .val (.int (0 : Int32)), .val (.ref b45), .val (.int (0 : Int32)), .val (.int s2), .val (.int s3), .val (.int (0 : Int32)), .val (.int (0 : Int32)), .val (.int (0 : Int32)), .val (.int (0 : Int32)), .unset, .unset, .unset, .unset] [(.int (1 : Int32))]))
            refine Runs.ret X65 hx hrt hlk (Or.inl ⟨rfl, by simp, _, rfl⟩) (by rfl) (hb hby at_299) (by decide) (by decide) ?_
            exact ⟨rfl, N65⟩
          · -- pc 150: not (lcmpW db (0 : Int64)) = (0 : Int32)
            refine Runs.by (fun _ hr => XS.ifNo X65.here hx rfl (hb hby at_150) rfl ((if0 _ _).trans (feq hc150).1) hr) ?_
            refine Runs.by (fun _ hr => XS.iconst X65.here hx rfl (hb hby at_153) hr) ?_
            refine Runs.by (fun _ hr => XS.goto X65.here hx rfl (pc0 := 154) (pc' := 158) rfl (hb hby at_154) (by decide) (by decide) hr) ?_
            show Runs p e below _ (T65.setTop (mkF m 158 #[.val (.long q0), .second, .val (.long q1), .second, .val (.int p2), .val (.int p3), .val (.int p4), .val (.long da), .second, .val (.long db), .second, .val (.int (1 : Int32)), .val (.int (0 : Int32)), .val (.ref b45), .val (.int (0 : Int32)), .val (.int s2), .val (.int s3), .val (.int (0 : Int32)), .unset, .unset, .unset, .unset, .unset, .unset, .unset] [(.int (1 : Int32))]))
            refine Runs.by (fun _ hr => XS.istore X65.here hx rfl (hb hby at_158) rfl (l' := #[.val (.long q0), .second, .val (.long q1), .second, .val (.int p2), .val (.int p3), .val (.int p4), .val (.long da), .second, .val (.long db), .second, .val (.int (1 : Int32)), .val (.int (0 : Int32)), .val (.ref b45), .val (.int (0 : Int32)), .val (.int s2), .val (.int s3), .val (.int (0 : Int32)), .val (.int (1 : Int32)), .unset, .unset, .unset, .unset, .unset, .unset]) rfl hr) ?_
            have zD2 : own_D q1 db = db := own_Dn (fun z => hc143 (own_lcz.mpr z))
            have nD2 : ¬ db = 0 := fun z => hc150 (own_lcz.mpr z)
            refine Runs.by (fun _ hr => XS.iload X65.here hx rfl (hb hby at_160) rfl  hr) ?_
            have hc162 : (0 : Int32) = (0 : Int32) := (by decide)
            refine Runs.by (fun _ hr => XS.ifYes X65.here hx rfl (pc0 := 162) (pc' := 174) rfl (hb hby at_162) rfl ((if0 _ _).trans (teq hc162).1) (by decide) (by decide) hr) ?_
            show Runs p e below _ (T65.setTop (mkF m 174 #[.val (.long q0), .second, .val (.long q1), .second, .val (.int p2), .val (.int p3), .val (.int p4), .val (.long da), .second, .val (.long db), .second, .val (.int (1 : Int32)), .val (.int (0 : Int32)), .val (.ref b45), .val (.int (0 : Int32)), .val (.int s2), .val (.int s3), .val (.int (0 : Int32)), .val (.int (1 : Int32)), .unset, .unset, .unset, .unset, .unset, .unset] []))
            refine Runs.by (fun _ hr => XS.iconst X65.here hx rfl (hb hby at_174) hr) ?_
            refine Runs.by (fun _ hr => XS.istore X65.here hx rfl (hb hby at_175) rfl (l' := #[.val (.long q0), .second, .val (.long q1), .second, .val (.int p2), .val (.int p3), .val (.int p4), .val (.long da), .second, .val (.long db), .second, .val (.int (1 : Int32)), .val (.int (0 : Int32)), .val (.ref b45), .val (.int (0 : Int32)), .val (.int s2), .val (.int s3), .val (.int (0 : Int32)), .val (.int (1 : Int32)), .val (.int (0 : Int32)), .unset, .unset, .unset, .unset, .unset]) rfl hr) ?_
            refine Runs.by (fun _ hr => XS.iload X65.here hx rfl (hb hby at_177) rfl  hr) ?_
            show Runs p e below _ (T65.setTop (mkF m 179 #[.val (.long q0), .second, .val (.long q1), .second, .val (.int p2), .val (.int p3), .val (.int p4), .val (.long da), .second, .val (.long db), .second, .val (.int (1 : Int32)), .val (.int (0 : Int32)), .val (.ref b45), .val (.int (0 : Int32)), .val (.int s2), .val (.int s3), .val (.int (0 : Int32)), .val (.int (1 : Int32)), .val (.int (0 : Int32)), .unset, .unset, .unset, .unset, .unset] [(.int (0 : Int32))]))
            have hc179 : (0 : Int32) = (0 : Int32) := (by decide)
            refine Runs.by (fun _ hr => XS.ifYes X65.here hx rfl (pc0 := 179) (pc' := 248) rfl (hb hby at_179) rfl ((if0 _ _).trans (teq hc179).1) (by decide) (by decide) hr) ?_
            refine Runs.by (fun _ hr => XS.iload X65.here hx rfl (hb hby at_248) rfl  hr) ?_
            have hc250 : (0 : Int32) = (0 : Int32) := (by decide)
            refine Runs.by (fun _ hr => XS.ifYes X65.here hx rfl (pc0 := 250) (pc' := 258) rfl (hb hby at_250) rfl ((if0 _ _).trans (teq hc250).1) (by decide) (by decide) hr) ?_
            show Runs p e below _ (T65.setTop (mkF m 258 #[.val (.long q0), .second, .val (.long q1), .second, .val (.int p2), .val (.int p3), .val (.int p4), .val (.long da), .second, .val (.long db), .second, .val (.int (1 : Int32)), .val (.int (0 : Int32)), .val (.ref b45), .val (.int (0 : Int32)), .val (.int s2), .val (.int s3), .val (.int (0 : Int32)), .val (.int (1 : Int32)), .val (.int (0 : Int32)), .unset, .unset, .unset, .unset, .unset] []))
            refine Runs.by (fun _ hr => XS.iload X65.here hx rfl (hb hby at_258) rfl  hr) ?_
            have hc260 : ¬ ((1 : Int32) = (0 : Int32)) := (by decide)
            refine Runs.by (fun _ hr => XS.ifNo X65.here hx rfl (hb hby at_260) rfl ((if0 _ _).trans (feq hc260).1) hr) ?_
            refine Runs.by (fun _ hr => XS.iload X65.here hx rfl (hb hby at_263) rfl  hr) ?_
            show Runs p e below _ (T65.setTop (mkF m 265 #[.val (.long q0), .second, .val (.long q1), .second, .val (.int p2), .val (.int p3), .val (.int p4), .val (.long da), .second, .val (.long db), .second, .val (.int (1 : Int32)), .val (.int (0 : Int32)), .val (.ref b45), .val (.int (0 : Int32)), .val (.int s2), .val (.int s3), .val (.int (0 : Int32)), .val (.int (1 : Int32)), .val (.int (0 : Int32)), .unset, .unset, .unset, .unset, .unset] [(.int (0 : Int32))]))
            have hc265 : (0 : Int32) = (0 : Int32) := (by decide)
            refine Runs.by (fun _ hr => XS.ifNo X65.here hx rfl (hb hby at_265) rfl ((if0 _ _).trans (teq hc265).2) hr) ?_
            refine Runs.by (fun _ hr => XS.iconst X65.here hx rfl (hb hby at_268) hr) ?_
            refine Runs.by (fun _ hr => XS.goto X65.here hx rfl (pc0 := 269) (pc' := 273) rfl (hb hby at_269) (by decide) (by decide) hr) ?_
            show Runs p e below _ (T65.setTop (mkF m 273 #[.val (.long q0), .second, .val (.long q1), .second, .val (.int p2), .val (.int p3), .val (.int p4), .val (.long da), .second, .val (.long db), .second, .val (.int (1 : Int32)), .val (.int (0 : Int32)), .val (.ref b45), .val (.int (0 : Int32)), .val (.int s2), .val (.int s3), .val (.int (0 : Int32)), .val (.int (1 : Int32)), .val (.int (0 : Int32)), .unset, .unset, .unset, .unset, .unset] [(.int (1 : Int32))]))
            refine Runs.by (fun _ hr => XS.istore X65.here hx rfl (hb hby at_273) rfl (l' := #[.val (.long q0), .second, .val (.long q1), .second, .val (.int p2), .val (.int p3), .val (.int p4), .val (.long da), .second, .val (.long db), .second, .val (.int (1 : Int32)), .val (.int (0 : Int32)), .val (.ref b45), .val (.int (0 : Int32)), .val (.int s2), .val (.int s3), .val (.int (0 : Int32)), .val (.int (1 : Int32)), .val (.int (0 : Int32)), .val (.int (1 : Int32)), .unset, .unset, .unset, .unset]) rfl hr) ?_
            refine Runs.by (fun _ hr => XS.iload X65.here hx rfl (hb hby at_275) rfl  hr) ?_
            have hc277 : (0 : Int32) = (0 : Int32) := (by decide)
            refine Runs.by (fun _ hr => XS.ifNo X65.here hx rfl (hb hby at_277) rfl ((if0 _ _).trans (teq hc277).2) hr) ?_
            show Runs p e below _ (T65.setTop (mkF m 280 #[.val (.long q0), .second, .val (.long q1), .second, .val (.int p2), .val (.int p3), .val (.int p4), .val (.long da), .second, .val (.long db), .second, .val (.int (1 : Int32)), .val (.int (0 : Int32)), .val (.ref b45), .val (.int (0 : Int32)), .val (.int s2), .val (.int s3), .val (.int (0 : Int32)), .val (.int (1 : Int32)), .val (.int (0 : Int32)), .val (.int (1 : Int32)), .unset, .unset, .unset, .unset] []))
            refine Runs.by (fun _ hr => XS.iload X65.here hx rfl (hb hby at_280) rfl  hr) ?_
            refine Runs.by (fun _ hr => XS.iload X65.here hx rfl (hb hby at_282) rfl  hr) ?_
            have hc284 : s2 = (0 : Int32) := hs2
            refine Runs.by (fun _ hr => XS.icmpNo X65.here hx rfl (hb hby at_284) rfl (teq hc284).2 hr) ?_
            show Runs p e below _ (T65.setTop (mkF m 287 #[.val (.long q0), .second, .val (.long q1), .second, .val (.int p2), .val (.int p3), .val (.int p4), .val (.long da), .second, .val (.long db), .second, .val (.int (1 : Int32)), .val (.int (0 : Int32)), .val (.ref b45), .val (.int (0 : Int32)), .val (.int s2), .val (.int s3), .val (.int (0 : Int32)), .val (.int (1 : Int32)), .val (.int (0 : Int32)), .val (.int (1 : Int32)), .unset, .unset, .unset, .unset] []))
            refine Runs.by (fun _ hr => XS.iload X65.here hx rfl (hb hby at_287) rfl  hr) ?_
            refine Runs.by (fun _ hr => XS.iload X65.here hx rfl (hb hby at_289) rfl  hr) ?_
            have hc291 : s3 = (1 : Int32) := (by simp [hs3, zD1, zD2, nD2])
            refine Runs.by (fun _ hr => XS.icmpNo X65.here hx rfl (hb hby at_291) rfl (teq hc291).2 hr) ?_
            show Runs p e below _ (T65.setTop (mkF m 294 #[.val (.long q0), .second, .val (.long q1), .second, .val (.int p2), .val (.int p3), .val (.int p4), .val (.long da), .second, .val (.long db), .second, .val (.int (1 : Int32)), .val (.int (0 : Int32)), .val (.ref b45), .val (.int (0 : Int32)), .val (.int s2), .val (.int s3), .val (.int (0 : Int32)), .val (.int (1 : Int32)), .val (.int (0 : Int32)), .val (.int (1 : Int32)), .unset, .unset, .unset, .unset] []))
            refine Runs.by (fun _ hr => XS.iconst X65.here hx rfl (hb hby at_294) hr) ?_
            refine Runs.by (fun _ hr => XS.goto X65.here hx rfl (pc0 := 295) (pc' := 299) rfl (hb hby at_295) (by decide) (by decide) hr) ?_
            show Runs p e below _ (T65.setTop (mkF m 299 #[.val (.long q0), .second, .val (.long q1), .second, .val (.int p2), .val (.int p3), .val (.int p4), .val (.long da), .second, .val (.long db), .second, .val (.int (1 : Int32)), .val (.int (0 : Int32)), .val (.ref b45), .val (.int (0 : Int32)), .val (.int s2), .val (.int s3), .val (.int (0 : Int32)), .val (.int (1 : Int32)), .val (.int (0 : Int32)), .val (.int (1 : Int32)), .unset, .unset, .unset, .unset] [(.int (1 : Int32))]))
            refine Runs.ret X65 hx hrt hlk (Or.inl ⟨rfl, by simp, _, rfl⟩) (by rfl) (hb hby at_299) (by decide) (by decide) ?_
            exact ⟨rfl, N65⟩
      · -- pc 123: not (lcmpW q0 (0 : Int64)) = (0 : Int32)
        refine Runs.by (fun _ hr => XS.ifNo X65.here hx rfl (hb hby at_123) rfl ((if0 _ _).trans (feq hc123).1) hr) ?_
        show Runs p e below _ (T65.setTop (mkF m 126 #[.val (.long q0), .second, .val (.long q1), .second, .val (.int p2), .val (.int p3), .val (.int p4), .val (.long da), .second, .val (.long db), .second, .val (.int (1 : Int32)), .val (.int (0 : Int32)), .val (.ref b45), .val (.int (0 : Int32)), .val (.int s2), .val (.int s3), .unset, .unset, .unset, .unset, .unset, .unset, .unset, .unset] []))
        refine Runs.by (fun _ hr => XS.lload X65.here hx rfl (hb hby at_126) rfl  hr) ?_
        refine Runs.by (fun _ hr => XS.lconst X65.here hx rfl (hb hby at_128) hr) ?_
        refine Runs.by (fun _ hr => XS.lcmp X65.here hx rfl (hb hby at_129) rfl hr) ?_
        show Runs p e below _ (T65.setTop (mkF m 130 #[.val (.long q0), .second, .val (.long q1), .second, .val (.int p2), .val (.int p3), .val (.int p4), .val (.long da), .second, .val (.long db), .second, .val (.int (1 : Int32)), .val (.int (0 : Int32)), .val (.ref b45), .val (.int (0 : Int32)), .val (.int s2), .val (.int s3), .unset, .unset, .unset, .unset, .unset, .unset, .unset, .unset] [(.int (lcmpW da (0 : Int64)))]))
        by_cases hc130 : (lcmpW da (0 : Int64)) = (0 : Int32)
        · -- pc 130: (lcmpW da (0 : Int64)) = (0 : Int32)
          refine Runs.by (fun _ hr => XS.ifYes X65.here hx rfl (pc0 := 130) (pc' := 137) rfl (hb hby at_130) rfl ((if0 _ _).trans (teq hc130).1) (by decide) (by decide) hr) ?_
          refine Runs.by (fun _ hr => XS.iconst X65.here hx rfl (hb hby at_137) hr) ?_
          refine Runs.by (fun _ hr => XS.istore X65.here hx rfl (hb hby at_138) rfl (l' := #[.val (.long q0), .second, .val (.long q1), .second, .val (.int p2), .val (.int p3), .val (.int p4), .val (.long da), .second, .val (.long db), .second, .val (.int (1 : Int32)), .val (.int (0 : Int32)), .val (.ref b45), .val (.int (0 : Int32)), .val (.int s2), .val (.int s3), .val (.int (0 : Int32)), .unset, .unset, .unset, .unset, .unset, .unset, .unset]) rfl hr) ?_
          have zD1 : own_D q0 da = 0 := own_Dz2 (own_lcz.mp hc130)
          show Runs p e below _ (T65.setTop (mkF m 140 #[.val (.long q0), .second, .val (.long q1), .second, .val (.int p2), .val (.int p3), .val (.int p4), .val (.long da), .second, .val (.long db), .second, .val (.int (1 : Int32)), .val (.int (0 : Int32)), .val (.ref b45), .val (.int (0 : Int32)), .val (.int s2), .val (.int s3), .val (.int (0 : Int32)), .unset, .unset, .unset, .unset, .unset, .unset, .unset] []))
          refine Runs.by (fun _ hr => XS.lloadN X65.here hx rfl (hb hby at_140) rfl  hr) ?_
          refine Runs.by (fun _ hr => XS.lconst X65.here hx rfl (hb hby at_141) hr) ?_
          refine Runs.by (fun _ hr => XS.lcmp X65.here hx rfl (hb hby at_142) rfl hr) ?_
          show Runs p e below _ (T65.setTop (mkF m 143 #[.val (.long q0), .second, .val (.long q1), .second, .val (.int p2), .val (.int p3), .val (.int p4), .val (.long da), .second, .val (.long db), .second, .val (.int (1 : Int32)), .val (.int (0 : Int32)), .val (.ref b45), .val (.int (0 : Int32)), .val (.int s2), .val (.int s3), .val (.int (0 : Int32)), .unset, .unset, .unset, .unset, .unset, .unset, .unset] [(.int (lcmpW q1 (0 : Int64)))]))
          by_cases hc143 : (lcmpW q1 (0 : Int64)) = (0 : Int32)
          · -- pc 143: (lcmpW q1 (0 : Int64)) = (0 : Int32)
            refine Runs.by (fun _ hr => XS.ifYes X65.here hx rfl (pc0 := 143) (pc' := 157) rfl (hb hby at_143) rfl ((if0 _ _).trans (teq hc143).1) (by decide) (by decide) hr) ?_
            refine Runs.by (fun _ hr => XS.iconst X65.here hx rfl (hb hby at_157) hr) ?_
            refine Runs.by (fun _ hr => XS.istore X65.here hx rfl (hb hby at_158) rfl (l' := #[.val (.long q0), .second, .val (.long q1), .second, .val (.int p2), .val (.int p3), .val (.int p4), .val (.long da), .second, .val (.long db), .second, .val (.int (1 : Int32)), .val (.int (0 : Int32)), .val (.ref b45), .val (.int (0 : Int32)), .val (.int s2), .val (.int s3), .val (.int (0 : Int32)), .val (.int (0 : Int32)), .unset, .unset, .unset, .unset, .unset, .unset]) rfl hr) ?_
            have zD2 : own_D q1 db = 0 := own_Dz1 (own_lcz.mp hc143)
            show Runs p e below _ (T65.setTop (mkF m 160 #[.val (.long q0), .second, .val (.long q1), .second, .val (.int p2), .val (.int p3), .val (.int p4), .val (.long da), .second, .val (.long db), .second, .val (.int (1 : Int32)), .val (.int (0 : Int32)), .val (.ref b45), .val (.int (0 : Int32)), .val (.int s2), .val (.int s3), .val (.int (0 : Int32)), .val (.int (0 : Int32)), .unset, .unset, .unset, .unset, .unset, .unset] []))
            refine Runs.by (fun _ hr => XS.iload X65.here hx rfl (hb hby at_160) rfl  hr) ?_
            have hc162 : (0 : Int32) = (0 : Int32) := (by decide)
            refine Runs.by (fun _ hr => XS.ifYes X65.here hx rfl (pc0 := 162) (pc' := 174) rfl (hb hby at_162) rfl ((if0 _ _).trans (teq hc162).1) (by decide) (by decide) hr) ?_
            refine Runs.by (fun _ hr => XS.iconst X65.here hx rfl (hb hby at_174) hr) ?_
            show Runs p e below _ (T65.setTop (mkF m 175 #[.val (.long q0), .second, .val (.long q1), .second, .val (.int p2), .val (.int p3), .val (.int p4), .val (.long da), .second, .val (.long db), .second, .val (.int (1 : Int32)), .val (.int (0 : Int32)), .val (.ref b45), .val (.int (0 : Int32)), .val (.int s2), .val (.int s3), .val (.int (0 : Int32)), .val (.int (0 : Int32)), .unset, .unset, .unset, .unset, .unset, .unset] [(.int (0 : Int32))]))
            refine Runs.by (fun _ hr => XS.istore X65.here hx rfl (hb hby at_175) rfl (l' := #[.val (.long q0), .second, .val (.long q1), .second, .val (.int p2), .val (.int p3), .val (.int p4), .val (.long da), .second, .val (.long db), .second, .val (.int (1 : Int32)), .val (.int (0 : Int32)), .val (.ref b45), .val (.int (0 : Int32)), .val (.int s2), .val (.int s3), .val (.int (0 : Int32)), .val (.int (0 : Int32)), .val (.int (0 : Int32)), .unset, .unset, .unset, .unset, .unset]) rfl hr) ?_
            refine Runs.by (fun _ hr => XS.iload X65.here hx rfl (hb hby at_177) rfl  hr) ?_
            have hc179 : (0 : Int32) = (0 : Int32) := (by decide)
            refine Runs.by (fun _ hr => XS.ifYes X65.here hx rfl (pc0 := 179) (pc' := 248) rfl (hb hby at_179) rfl ((if0 _ _).trans (teq hc179).1) (by decide) (by decide) hr) ?_
            show Runs p e below _ (T65.setTop (mkF m 248 #[.val (.long q0), .second, .val (.long q1), .second, .val (.int p2), .val (.int p3), .val (.int p4), .val (.long da), .second, .val (.long db), .second, .val (.int (1 : Int32)), .val (.int (0 : Int32)), .val (.ref b45), .val (.int (0 : Int32)), .val (.int s2), .val (.int s3), .val (.int (0 : Int32)), .val (.int (0 : Int32)), .val (.int (0 : Int32)), .unset, .unset, .unset, .unset, .unset] []))
            refine Runs.by (fun _ hr => XS.iload X65.here hx rfl (hb hby at_248) rfl  hr) ?_
            have hc250 : (0 : Int32) = (0 : Int32) := (by decide)
            refine Runs.by (fun _ hr => XS.ifYes X65.here hx rfl (pc0 := 250) (pc' := 258) rfl (hb hby at_250) rfl ((if0 _ _).trans (teq hc250).1) (by decide) (by decide) hr) ?_
            refine Runs.by (fun _ hr => XS.iload X65.here hx rfl (hb hby at_258) rfl  hr) ?_
            show Runs p e below _ (T65.setTop (mkF m 260 #[.val (.long q0), .second, .val (.long q1), .second, .val (.int p2), .val (.int p3), .val (.int p4), .val (.long da), .second, .val (.long db), .second, .val (.int (1 : Int32)), .val (.int (0 : Int32)), .val (.ref b45), .val (.int (0 : Int32)), .val (.int s2), .val (.int s3), .val (.int (0 : Int32)), .val (.int (0 : Int32)), .val (.int (0 : Int32)), .unset, .unset, .unset, .unset, .unset] [(.int (0 : Int32))]))
            have hc260 : (0 : Int32) = (0 : Int32) := (by decide)
            refine Runs.by (fun _ hr => XS.ifYes X65.here hx rfl (pc0 := 260) (pc' := 272) rfl (hb hby at_260) rfl ((if0 _ _).trans (teq hc260).1) (by decide) (by decide) hr) ?_
            refine Runs.by (fun _ hr => XS.iconst X65.here hx rfl (hb hby at_272) hr) ?_
            refine Runs.by (fun _ hr => XS.istore X65.here hx rfl (hb hby at_273) rfl (l' := #[.val (.long q0), .second, .val (.long q1), .second, .val (.int p2), .val (.int p3), .val (.int p4), .val (.long da), .second, .val (.long db), .second, .val (.int (1 : Int32)), .val (.int (0 : Int32)), .val (.ref b45), .val (.int (0 : Int32)), .val (.int s2), .val (.int s3), .val (.int (0 : Int32)), .val (.int (0 : Int32)), .val (.int (0 : Int32)), .val (.int (0 : Int32)), .unset, .unset, .unset, .unset]) rfl hr) ?_
            show Runs p e below _ (T65.setTop (mkF m 275 #[.val (.long q0), .second, .val (.long q1), .second, .val (.int p2), .val (.int p3), .val (.int p4), .val (.long da), .second, .val (.long db), .second, .val (.int (1 : Int32)), .val (.int (0 : Int32)), .val (.ref b45), .val (.int (0 : Int32)), .val (.int s2), .val (.int s3), .val (.int (0 : Int32)), .val (.int (0 : Int32)), .val (.int (0 : Int32)), .val (.int (0 : Int32)), .unset, .unset, .unset, .unset] []))
            refine Runs.by (fun _ hr => XS.iload X65.here hx rfl (hb hby at_275) rfl  hr) ?_
            have hc277 : (0 : Int32) = (0 : Int32) := (by decide)
            refine Runs.by (fun _ hr => XS.ifNo X65.here hx rfl (hb hby at_277) rfl ((if0 _ _).trans (teq hc277).2) hr) ?_
            refine Runs.by (fun _ hr => XS.iload X65.here hx rfl (hb hby at_280) rfl  hr) ?_
            show Runs p e below _ (T65.setTop (mkF m 282 #[.val (.long q0), .second, .val (.long q1), .second, .val (.int p2), .val (.int p3), .val (.int p4), .val (.long da), .second, .val (.long db), .second, .val (.int (1 : Int32)), .val (.int (0 : Int32)), .val (.ref b45), .val (.int (0 : Int32)), .val (.int s2), .val (.int s3), .val (.int (0 : Int32)), .val (.int (0 : Int32)), .val (.int (0 : Int32)), .val (.int (0 : Int32)), .unset, .unset, .unset, .unset] [(.int s2)]))
            refine Runs.by (fun _ hr => XS.iload X65.here hx rfl (hb hby at_282) rfl  hr) ?_
            have hc284 : s2 = (0 : Int32) := hs2
            refine Runs.by (fun _ hr => XS.icmpNo X65.here hx rfl (hb hby at_284) rfl (teq hc284).2 hr) ?_
            refine Runs.by (fun _ hr => XS.iload X65.here hx rfl (hb hby at_287) rfl  hr) ?_
            show Runs p e below _ (T65.setTop (mkF m 289 #[.val (.long q0), .second, .val (.long q1), .second, .val (.int p2), .val (.int p3), .val (.int p4), .val (.long da), .second, .val (.long db), .second, .val (.int (1 : Int32)), .val (.int (0 : Int32)), .val (.ref b45), .val (.int (0 : Int32)), .val (.int s2), .val (.int s3), .val (.int (0 : Int32)), .val (.int (0 : Int32)), .val (.int (0 : Int32)), .val (.int (0 : Int32)), .unset, .unset, .unset, .unset] [(.int s3)]))
            refine Runs.by (fun _ hr => XS.iload X65.here hx rfl (hb hby at_289) rfl  hr) ?_
            have hc291 : s3 = (0 : Int32) := (by simp [hs3, zD1, zD2])
            refine Runs.by (fun _ hr => XS.icmpNo X65.here hx rfl (hb hby at_291) rfl (teq hc291).2 hr) ?_
            refine Runs.by (fun _ hr => XS.iconst X65.here hx rfl (hb hby at_294) hr) ?_
            show Runs p e below _ (T65.setTop (mkF m 295 #[.val (.long q0), .second, .val (.long q1), .second, .val (.int p2), .val (.int p3), .val (.int p4), .val (.long da), .second, .val (.long db), .second, .val (.int (1 : Int32)), .val (.int (0 : Int32)), .val (.ref b45), .val (.int (0 : Int32)), .val (.int s2), .val (.int s3), .val (.int (0 : Int32)), .val (.int (0 : Int32)), .val (.int (0 : Int32)), .val (.int (0 : Int32)), .unset, .unset, .unset, .unset] [(.int (1 : Int32))]))
            refine Runs.by (fun _ hr => XS.goto X65.here hx rfl (pc0 := 295) (pc' := 299) rfl (hb hby at_295) (by decide) (by decide) hr) ?_
            show Runs p e below _ (T65.setTop (mkF m 299 #[.val (.long q0), .second, .val (.long q1), .second, .val (.int p2), .val (.int p3), .val (.int p4), .val (.long da), .second, .val (.long db), .second, .val (.int (1 : Int32)), .val (.int (0 : Int32)), .val (.ref b45), .val (.int (0 : Int32)), .val (.int s2), .val (.int s3), .val (.int (0 : Int32)), .val (.int (0 : Int32)), .val (.int (0 : Int32)), .val (.int (0 : Int32)), .unset, .unset, .unset, .unset] [(.int (1 : Int32))]))
            refine Runs.ret X65 hx hrt hlk (Or.inl ⟨rfl, by simp, _, rfl⟩) (by rfl) (hb hby at_299) (by decide) (by decide) ?_
            exact ⟨rfl, N65⟩
          · -- pc 143: not (lcmpW q1 (0 : Int64)) = (0 : Int32)
            refine Runs.by (fun _ hr => XS.ifNo X65.here hx rfl (hb hby at_143) rfl ((if0 _ _).trans (feq hc143).1) hr) ?_
            refine Runs.by (fun _ hr => XS.lload X65.here hx rfl (hb hby at_146) rfl  hr) ?_
            refine Runs.by (fun _ hr => XS.lconst X65.here hx rfl (hb hby at_148) hr) ?_
            show Runs p e below _ (T65.setTop (mkF m 149 #[.val (.long q0), .second, .val (.long q1), .second, .val (.int p2), .val (.int p3), .val (.int p4), .val (.long da), .second, .val (.long db), .second, .val (.int (1 : Int32)), .val (.int (0 : Int32)), .val (.ref b45), .val (.int (0 : Int32)), .val (.int s2), .val (.int s3), .val (.int (0 : Int32)), .unset, .unset, .unset, .unset, .unset, .unset, .unset] [(.long (0 : Int64)), (.long db)]))
            refine Runs.by (fun _ hr => XS.lcmp X65.here hx rfl (hb hby at_149) rfl hr) ?_
            by_cases hc150 : (lcmpW db (0 : Int64)) = (0 : Int32)
            · -- pc 150: (lcmpW db (0 : Int64)) = (0 : Int32)
              refine Runs.by (fun _ hr => XS.ifYes X65.here hx rfl (pc0 := 150) (pc' := 157) rfl (hb hby at_150) rfl ((if0 _ _).trans (teq hc150).1) (by decide) (by decide) hr) ?_
              refine Runs.by (fun _ hr => XS.iconst X65.here hx rfl (hb hby at_157) hr) ?_
              show Runs p e below _ (T65.setTop (mkF m 158 #[.val (.long q0), .second, .val (.long q1), .second, .val (.int p2), .val (.int p3), .val (.int p4), .val (.long da), .second, .val (.long db), .second, .val (.int (1 : Int32)), .val (.int (0 : Int32)), .val (.ref b45), .val (.int (0 : Int32)), .val (.int s2), .val (.int s3), .val (.int (0 : Int32)), .unset, .unset, .unset, .unset, .unset, .unset, .unset] [(.int (0 : Int32))]))
              refine Runs.by (fun _ hr => XS.istore X65.here hx rfl (hb hby at_158) rfl (l' := #[.val (.long q0), .second, .val (.long q1), .second, .val (.int p2), .val (.int p3), .val (.int p4), .val (.long da), .second, .val (.long db), .second, .val (.int (1 : Int32)), .val (.int (0 : Int32)), .val (.ref b45), .val (.int (0 : Int32)), .val (.int s2), .val (.int s3), .val (.int (0 : Int32)), .val (.int (0 : Int32)), .unset, .unset, .unset, .unset, .unset, .unset]) rfl hr) ?_
              have zD2 : own_D q1 db = 0 := own_Dz2 (own_lcz.mp hc150)
              refine Runs.by (fun _ hr => XS.iload X65.here hx rfl (hb hby at_160) rfl  hr) ?_
              have hc162 : (0 : Int32) = (0 : Int32) := (by decide)
              refine Runs.by (fun _ hr => XS.ifYes X65.here hx rfl (pc0 := 162) (pc' := 174) rfl (hb hby at_162) rfl ((if0 _ _).trans (teq hc162).1) (by decide) (by decide) hr) ?_
              show Runs p e below _ (T65.setTop (mkF m 174 #[.val (.long q0), .second, .val (.long q1), .second, .val (.int p2), .val (.int p3), .val (.int p4), .val (.long da), .second, .val (.long db), .second, .val (.int (1 : Int32)), .val (.int (0 : Int32)), .val (.ref b45), .val (.int (0 : Int32)), .val (.int s2), .val (.int s3), .val (.int (0 : Int32)), .val (.int (0 : Int32)), .unset, .unset, .unset, .unset, .unset, .unset] []))
              refine Runs.by (fun _ hr => XS.iconst X65.here hx rfl (hb hby at_174) hr) ?_
              refine Runs.by (fun _ hr => XS.istore X65.here hx rfl (hb hby at_175) rfl (l' := #[.val (.long q0), .second, .val (.long q1), .second, .val (.int p2), .val (.int p3), .val (.int p4), .val (.long da), .second, .val (.long db), .second, .val (.int (1 : Int32)), .val (.int (0 : Int32)), .val (.ref b45), .val (.int (0 : Int32)), .val (.int s2), .val (.int s3), .val (.int (0 : Int32)), .val (.int (0 : Int32)), .val (.int (0 : Int32)), .unset, .unset, .unset, .unset, .unset]) rfl hr) ?_
              refine Runs.by (fun _ hr => XS.iload X65.here hx rfl (hb hby at_177) rfl  hr) ?_
              show Runs p e below _ (T65.setTop (mkF m 179 #[.val (.long q0), .second, .val (.long q1), .second, .val (.int p2), .val (.int p3), .val (.int p4), .val (.long da), .second, .val (.long db), .second, .val (.int (1 : Int32)), .val (.int (0 : Int32)), .val (.ref b45), .val (.int (0 : Int32)), .val (.int s2), .val (.int s3), .val (.int (0 : Int32)), .val (.int (0 : Int32)), .val (.int (0 : Int32)), .unset, .unset, .unset, .unset, .unset] [(.int (0 : Int32))]))
              have hc179 : (0 : Int32) = (0 : Int32) := (by decide)
              refine Runs.by (fun _ hr => XS.ifYes X65.here hx rfl (pc0 := 179) (pc' := 248) rfl (hb hby at_179) rfl ((if0 _ _).trans (teq hc179).1) (by decide) (by decide) hr) ?_
              refine Runs.by (fun _ hr => XS.iload X65.here hx rfl (hb hby at_248) rfl  hr) ?_
              have hc250 : (0 : Int32) = (0 : Int32) := (by decide)
              refine Runs.by (fun _ hr => XS.ifYes X65.here hx rfl (pc0 := 250) (pc' := 258) rfl (hb hby at_250) rfl ((if0 _ _).trans (teq hc250).1) (by decide) (by decide) hr) ?_
              show Runs p e below _ (T65.setTop (mkF m 258 #[.val (.long q0), .second, .val (.long q1), .second, .val (.int p2), .val (.int p3), .val (.int p4), .val (.long da), .second, .val (.long db), .second, .val (.int (1 : Int32)), .val (.int (0 : Int32)), .val (.ref b45), .val (.int (0 : Int32)), .val (.int s2), .val (.int s3), .val (.int (0 : Int32)), .val (.int (0 : Int32)), .val (.int (0 : Int32)), .unset, .unset, .unset, .unset, .unset] []))
              refine Runs.by (fun _ hr => XS.iload X65.here hx rfl (hb hby at_258) rfl  hr) ?_
              have hc260 : (0 : Int32) = (0 : Int32) := (by decide)
              refine Runs.by (fun _ hr => XS.ifYes X65.here hx rfl (pc0 := 260) (pc' := 272) rfl (hb hby at_260) rfl ((if0 _ _).trans (teq hc260).1) (by decide) (by decide) hr) ?_
              refine Runs.by (fun _ hr => XS.iconst X65.here hx rfl (hb hby at_272) hr) ?_
              show Runs p e below _ (T65.setTop (mkF m 273 #[.val (.long q0), .second, .val (.long q1), .second, .val (.int p2), .val (.int p3), .val (.int p4), .val (.long da), .second, .val (.long db), .second, .val (.int (1 : Int32)), .val (.int (0 : Int32)), .val (.ref b45), .val (.int (0 : Int32)), .val (.int s2), .val (.int s3), .val (.int (0 : Int32)), .val (.int (0 : Int32)), .val (.int (0 : Int32)), .unset, .unset, .unset, .unset, .unset] [(.int (0 : Int32))]))
              refine Runs.by (fun _ hr => XS.istore X65.here hx rfl (hb hby at_273) rfl (l' := #[.val (.long q0), .second, .val (.long q1), .second, .val (.int p2), .val (.int p3), .val (.int p4), .val (.long da), .second, .val (.long db), .second, .val (.int (1 : Int32)), .val (.int (0 : Int32)), .val (.ref b45), .val (.int (0 : Int32)), .val (.int s2), .val (.int s3), .val (.int (0 : Int32)), .val (.int (0 : Int32)), .val (.int (0 : Int32)), .val (.int (0 : Int32)), .unset, .unset, .unset, .unset]) rfl hr) ?_
              refine Runs.by (fun _ hr => XS.iload X65.here hx rfl (hb hby at_275) rfl  hr) ?_
              have hc277 : (0 : Int32) = (0 : Int32) := (by decide)
              refine Runs.by (fun _ hr => XS.ifNo X65.here hx rfl (hb hby at_277) rfl ((if0 _ _).trans (teq hc277).2) hr) ?_
              show Runs p e below _ (T65.setTop (mkF m 280 #[.val (.long q0), .second, .val (.long q1), .second, .val (.int p2), .val (.int p3), .val (.int p4), .val (.long da), .second, .val (.long db), .second, .val (.int (1 : Int32)), .val (.int (0 : Int32)), .val (.ref b45), .val (.int (0 : Int32)), .val (.int s2), .val (.int s3), .val (.int (0 : Int32)), .val (.int (0 : Int32)), .val (.int (0 : Int32)), .val (.int (0 : Int32)), .unset, .unset, .unset, .unset] []))
              refine Runs.by (fun _ hr => XS.iload X65.here hx rfl (hb hby at_280) rfl  hr) ?_
              refine Runs.by (fun _ hr => XS.iload X65.here hx rfl (hb hby at_282) rfl  hr) ?_
              have hc284 : s2 = (0 : Int32) := hs2
              refine Runs.by (fun _ hr => XS.icmpNo X65.here hx rfl (hb hby at_284) rfl (teq hc284).2 hr) ?_
              show Runs p e below _ (T65.setTop (mkF m 287 #[.val (.long q0), .second, .val (.long q1), .second, .val (.int p2), .val (.int p3), .val (.int p4), .val (.long da), .second, .val (.long db), .second, .val (.int (1 : Int32)), .val (.int (0 : Int32)), .val (.ref b45), .val (.int (0 : Int32)), .val (.int s2), .val (.int s3), .val (.int (0 : Int32)), .val (.int (0 : Int32)), .val (.int (0 : Int32)), .val (.int (0 : Int32)), .unset, .unset, .unset, .unset] []))
              refine Runs.by (fun _ hr => XS.iload X65.here hx rfl (hb hby at_287) rfl  hr) ?_
              refine Runs.by (fun _ hr => XS.iload X65.here hx rfl (hb hby at_289) rfl  hr) ?_
              have hc291 : s3 = (0 : Int32) := (by simp [hs3, zD1, zD2])
              refine Runs.by (fun _ hr => XS.icmpNo X65.here hx rfl (hb hby at_291) rfl (teq hc291).2 hr) ?_
              show Runs p e below _ (T65.setTop (mkF m 294 #[.val (.long q0), .second, .val (.long q1), .second, .val (.int p2), .val (.int p3), .val (.int p4), .val (.long da), .second, .val (.long db), .second, .val (.int (1 : Int32)), .val (.int (0 : Int32)), .val (.ref b45), .val (.int (0 : Int32)), .val (.int s2), .val (.int s3), .val (.int (0 : Int32)), .val (.int (0 : Int32)), .val (.int (0 : Int32)), .val (.int (0 : Int32)), .unset, .unset, .unset, .unset] []))
              refine Runs.by (fun _ hr => XS.iconst X65.here hx rfl (hb hby at_294) hr) ?_
              refine Runs.by (fun _ hr => XS.goto X65.here hx rfl (pc0 := 295) (pc' := 299) rfl (hb hby at_295) (by decide) (by decide) hr) ?_
              show Runs p e below _ (T65.setTop (mkF m 299 #[.val (.long q0), .second, .val (.long q1), .second, .val (.int p2), .val (.int p3), .val (.int p4), .val (.long da), .second, .val (.long db), .second, .val (.int (1 : Int32)), .val (.int (0 : Int32)), .val (.ref b45), .val (.int (0 : Int32)), .val (.int s2), .val (.int s3), .val (.int (0 : Int32)), .val (.int (0 : Int32)), .val (.int (0 : Int32)), .val (.int (0 : Int32)), .unset, .unset, .unset, .unset] [(.int (1 : Int32))]))
              refine Runs.ret X65 hx hrt hlk (Or.inl ⟨rfl, by simp, _, rfl⟩) (by rfl) (hb hby at_299) (by decide) (by decide) ?_
              exact ⟨rfl, N65⟩
            · -- pc 150: not (lcmpW db (0 : Int64)) = (0 : Int32)
              refine Runs.by (fun _ hr => XS.ifNo X65.here hx rfl (hb hby at_150) rfl ((if0 _ _).trans (feq hc150).1) hr) ?_
              refine Runs.by (fun _ hr => XS.iconst X65.here hx rfl (hb hby at_153) hr) ?_
              show Runs p e below _ (T65.setTop (mkF m 154 #[.val (.long q0), .second, .val (.long q1), .second, .val (.int p2), .val (.int p3), .val (.int p4), .val (.long da), .second, .val (.long db), .second, .val (.int (1 : Int32)), .val (.int (0 : Int32)), .val (.ref b45), .val (.int (0 : Int32)), .val (.int s2), .val (.int s3), .val (.int (0 : Int32)), .unset, .unset, .unset, .unset, .unset, .unset, .unset] [(.int (1 : Int32))]))
              refine Runs.by (fun _ hr => XS.goto X65.here hx rfl (pc0 := 154) (pc' := 158) rfl (hb hby at_154) (by decide) (by decide) hr) ?_
              refine Runs.by (fun _ hr => XS.istore X65.here hx rfl (hb hby at_158) rfl (l' := #[.val (.long q0), .second, .val (.long q1), .second, .val (.int p2), .val (.int p3), .val (.int p4), .val (.long da), .second, .val (.long db), .second, .val (.int (1 : Int32)), .val (.int (0 : Int32)), .val (.ref b45), .val (.int (0 : Int32)), .val (.int s2), .val (.int s3), .val (.int (0 : Int32)), .val (.int (1 : Int32)), .unset, .unset, .unset, .unset, .unset, .unset]) rfl hr) ?_
              have zD2 : own_D q1 db = db := own_Dn (fun z => hc143 (own_lcz.mpr z))
              have nD2 : ¬ db = 0 := fun z => hc150 (own_lcz.mpr z)
              refine Runs.by (fun _ hr => XS.iload X65.here hx rfl (hb hby at_160) rfl  hr) ?_
              show Runs p e below _ (T65.setTop (mkF m 162 #[.val (.long q0), .second, .val (.long q1), .second, .val (.int p2), .val (.int p3), .val (.int p4), .val (.long da), .second, .val (.long db), .second, .val (.int (1 : Int32)), .val (.int (0 : Int32)), .val (.ref b45), .val (.int (0 : Int32)), .val (.int s2), .val (.int s3), .val (.int (0 : Int32)), .val (.int (1 : Int32)), .unset, .unset, .unset, .unset, .unset, .unset] [(.int (0 : Int32))]))
              have hc162 : (0 : Int32) = (0 : Int32) := (by decide)
              refine Runs.by (fun _ hr => XS.ifYes X65.here hx rfl (pc0 := 162) (pc' := 174) rfl (hb hby at_162) rfl ((if0 _ _).trans (teq hc162).1) (by decide) (by decide) hr) ?_
              refine Runs.by (fun _ hr => XS.iconst X65.here hx rfl (hb hby at_174) hr) ?_
              refine Runs.by (fun _ hr => XS.istore X65.here hx rfl (hb hby at_175) rfl (l' := #[.val (.long q0), .second, .val (.long q1), .second, .val (.int p2), .val (.int p3), .val (.int p4), .val (.long da), .second, .val (.long db), .second, .val (.int (1 : Int32)), .val (.int (0 : Int32)), .val (.ref b45), .val (.int (0 : Int32)), .val (.int s2), .val (.int s3), .val (.int (0 : Int32)), .val (.int (1 : Int32)), .val (.int (0 : Int32)), .unset, .unset, .unset, .unset, .unset]) rfl hr) ?_
              show Runs p e below _ (T65.setTop (mkF m 177 #[.val (.long q0), .second, .val (.long q1), .second, .val (.int p2), .val (.int p3), .val (.int p4), .val (.long da), .second, .val (.long db), .second, .val (.int (1 : Int32)), .val (.int (0 : Int32)), .val (.ref b45), .val (.int (0 : Int32)), .val (.int s2), .val (.int s3), .val (.int (0 : Int32)), .val (.int (1 : Int32)), .val (.int (0 : Int32)), .unset, .unset, .unset, .unset, .unset] []))
              refine Runs.by (fun _ hr => XS.iload X65.here hx rfl (hb hby at_177) rfl  hr) ?_
              have hc179 : (0 : Int32) = (0 : Int32) := (by decide)
              refine Runs.by (fun _ hr => XS.ifYes X65.here hx rfl (pc0 := 179) (pc' := 248) rfl (hb hby at_179) rfl ((if0 _ _).trans (teq hc179).1) (by decide) (by decide) hr) ?_
              refine Runs.by (fun _ hr => XS.iload X65.here hx rfl (hb hby at_248) rfl  hr) ?_
              show Runs p e below _ (T65.setTop (mkF m 250 #[.val (.long q0), .second, .val (.long q1), .second, .val (.int p2), .val (.int p3), .val (.int p4), .val (.long da), .second, .val (.long db), .second, .val (.int (1 : Int32)), .val (.int (0 : Int32)), .val (.ref b45), .val (.int (0 : Int32)), .val (.int s2), .val (.int s3), .val (.int (0 : Int32)), .val (.int (1 : Int32)), .val (.int (0 : Int32)), .unset, .unset, .unset, .unset, .unset] [(.int (0 : Int32))]))
              have hc250 : (0 : Int32) = (0 : Int32) := (by decide)
              refine Runs.by (fun _ hr => XS.ifYes X65.here hx rfl (pc0 := 250) (pc' := 258) rfl (hb hby at_250) rfl ((if0 _ _).trans (teq hc250).1) (by decide) (by decide) hr) ?_
              refine Runs.by (fun _ hr => XS.iload X65.here hx rfl (hb hby at_258) rfl  hr) ?_
              have hc260 : ¬ ((1 : Int32) = (0 : Int32)) := (by decide)
              refine Runs.by (fun _ hr => XS.ifNo X65.here hx rfl (hb hby at_260) rfl ((if0 _ _).trans (feq hc260).1) hr) ?_
              show Runs p e below _ (T65.setTop (mkF m 263 #[.val (.long q0), .second, .val (.long q1), .second, .val (.int p2), .val (.int p3), .val (.int p4), .val (.long da), .second, .val (.long db), .second, .val (.int (1 : Int32)), .val (.int (0 : Int32)), .val (.ref b45), .val (.int (0 : Int32)), .val (.int s2), .val (.int s3), .val (.int (0 : Int32)), .val (.int (1 : Int32)), .val (.int (0 : Int32)), .unset, .unset, .unset, .unset, .unset] []))
              refine Runs.by (fun _ hr => XS.iload X65.here hx rfl (hb hby at_263) rfl  hr) ?_
              have hc265 : (0 : Int32) = (0 : Int32) := (by decide)
              refine Runs.by (fun _ hr => XS.ifNo X65.here hx rfl (hb hby at_265) rfl ((if0 _ _).trans (teq hc265).2) hr) ?_
              refine Runs.by (fun _ hr => XS.iconst X65.here hx rfl (hb hby at_268) hr) ?_
              show Runs p e below _ (T65.setTop (mkF m 269 #[.val (.long q0), .second, .val (.long q1), .second, .val (.int p2), .val (.int p3), .val (.int p4), .val (.long da), .second, .val (.long db), .second, .val (.int (1 : Int32)), .val (.int (0 : Int32)), .val (.ref b45), .val (.int (0 : Int32)), .val (.int s2), .val (.int s3), .val (.int (0 : Int32)), .val (.int (1 : Int32)), .val (.int (0 : Int32)), .unset, .unset, .unset, .unset, .unset] [(.int (1 : Int32))]))
              refine Runs.by (fun _ hr => XS.goto X65.here hx rfl (pc0 := 269) (pc' := 273) rfl (hb hby at_269) (by decide) (by decide) hr) ?_
              refine Runs.by (fun _ hr => XS.istore X65.here hx rfl (hb hby at_273) rfl (l' := #[.val (.long q0), .second, .val (.long q1), .second, .val (.int p2), .val (.int p3), .val (.int p4), .val (.long da), .second, .val (.long db), .second, .val (.int (1 : Int32)), .val (.int (0 : Int32)), .val (.ref b45), .val (.int (0 : Int32)), .val (.int s2), .val (.int s3), .val (.int (0 : Int32)), .val (.int (1 : Int32)), .val (.int (0 : Int32)), .val (.int (1 : Int32)), .unset, .unset, .unset, .unset]) rfl hr) ?_
              refine Runs.by (fun _ hr => XS.iload X65.here hx rfl (hb hby at_275) rfl  hr) ?_
              show Runs p e below _ (T65.setTop (mkF m 277 #[.val (.long q0), .second, .val (.long q1), .second, .val (.int p2), .val (.int p3), .val (.int p4), .val (.long da), .second, .val (.long db), .second, .val (.int (1 : Int32)), .val (.int (0 : Int32)), .val (.ref b45), .val (.int (0 : Int32)), .val (.int s2), .val (.int s3), .val (.int (0 : Int32)), .val (.int (1 : Int32)), .val (.int (0 : Int32)), .val (.int (1 : Int32)), .unset, .unset, .unset, .unset] [(.int (0 : Int32))]))
              have hc277 : (0 : Int32) = (0 : Int32) := (by decide)
              refine Runs.by (fun _ hr => XS.ifNo X65.here hx rfl (hb hby at_277) rfl ((if0 _ _).trans (teq hc277).2) hr) ?_
              refine Runs.by (fun _ hr => XS.iload X65.here hx rfl (hb hby at_280) rfl  hr) ?_
              refine Runs.by (fun _ hr => XS.iload X65.here hx rfl (hb hby at_282) rfl  hr) ?_
              show Runs p e below _ (T65.setTop (mkF m 284 #[.val (.long q0), .second, .val (.long q1), .second, .val (.int p2), .val (.int p3), .val (.int p4), .val (.long da), .second, .val (.long db), .second, .val (.int (1 : Int32)), .val (.int (0 : Int32)), .val (.ref b45), .val (.int (0 : Int32)), .val (.int s2), .val (.int s3), .val (.int (0 : Int32)), .val (.int (1 : Int32)), .val (.int (0 : Int32)), .val (.int (1 : Int32)), .unset, .unset, .unset, .unset] [(.int (0 : Int32)), (.int s2)]))
              have hc284 : s2 = (0 : Int32) := hs2
              refine Runs.by (fun _ hr => XS.icmpNo X65.here hx rfl (hb hby at_284) rfl (teq hc284).2 hr) ?_
              refine Runs.by (fun _ hr => XS.iload X65.here hx rfl (hb hby at_287) rfl  hr) ?_
              refine Runs.by (fun _ hr => XS.iload X65.here hx rfl (hb hby at_289) rfl  hr) ?_
              show Runs p e below _ (T65.setTop (mkF m 291 #[.val (.long q0), .second, .val (.long q1), .second, .val (.int p2), .val (.int p3), .val (.int p4), .val (.long da), .second, .val (.long db), .second, .val (.int (1 : Int32)), .val (.int (0 : Int32)), .val (.ref b45), .val (.int (0 : Int32)), .val (.int s2), .val (.int s3), .val (.int (0 : Int32)), .val (.int (1 : Int32)), .val (.int (0 : Int32)), .val (.int (1 : Int32)), .unset, .unset, .unset, .unset] [(.int (1 : Int32)), (.int s3)]))
              have hc291 : s3 = (1 : Int32) := (by simp [hs3, zD1, zD2, nD2])
              refine Runs.by (fun _ hr => XS.icmpNo X65.here hx rfl (hb hby at_291) rfl (teq hc291).2 hr) ?_
              refine Runs.by (fun _ hr => XS.iconst X65.here hx rfl (hb hby at_294) hr) ?_
              refine Runs.by (fun _ hr => XS.goto X65.here hx rfl (pc0 := 295) (pc' := 299) rfl (hb hby at_295) (by decide) (by decide) hr) ?_
              show Runs p e below _ (T65.setTop (mkF m 299 #[.val (.long q0), .second, .val (.long q1), .second, .val (.int p2), .val (.int p3), .val (.int p4), .val (.long da), .second, .val (.long db), .second, .val (.int (1 : Int32)), .val (.int (0 : Int32)), .val (.ref b45), .val (.int (0 : Int32)), .val (.int s2), .val (.int s3), .val (.int (0 : Int32)), .val (.int (1 : Int32)), .val (.int (0 : Int32)), .val (.int (1 : Int32)), .unset, .unset, .unset, .unset] [(.int (1 : Int32))]))
              refine Runs.ret X65 hx hrt hlk (Or.inl ⟨rfl, by simp, _, rfl⟩) (by rfl) (hb hby at_299) (by decide) (by decide) ?_
              exact ⟨rfl, N65⟩
        · -- pc 130: not (lcmpW da (0 : Int64)) = (0 : Int32)
          refine Runs.by (fun _ hr => XS.ifNo X65.here hx rfl (hb hby at_130) rfl ((if0 _ _).trans (feq hc130).1) hr) ?_
          refine Runs.by (fun _ hr => XS.iconst X65.here hx rfl (hb hby at_133) hr) ?_
          refine Runs.by (fun _ hr => XS.goto X65.here hx rfl (pc0 := 134) (pc' := 138) rfl (hb hby at_134) (by decide) (by decide) hr) ?_
          show Runs p e below _ (T65.setTop (mkF m 138 #[.val (.long q0), .second, .val (.long q1), .second, .val (.int p2), .val (.int p3), .val (.int p4), .val (.long da), .second, .val (.long db), .second, .val (.int (1 : Int32)), .val (.int (0 : Int32)), .val (.ref b45), .val (.int (0 : Int32)), .val (.int s2), .val (.int s3), .unset, .unset, .unset, .unset, .unset, .unset, .unset, .unset] [(.int (1 : Int32))]))
          refine Runs.by (fun _ hr => XS.istore X65.here hx rfl (hb hby at_138) rfl (l' := #[.val (.long q0), .second, .val (.long q1), .second, .val (.int p2), .val (.int p3), .val (.int p4), .val (.long da), .second, .val (.long db), .second, .val (.int (1 : Int32)), .val (.int (0 : Int32)), .val (.ref b45), .val (.int (0 : Int32)), .val (.int s2), .val (.int s3), .val (.int (1 : Int32)), .unset, .unset, .unset, .unset, .unset, .unset, .unset]) rfl hr) ?_
          have zD1 : own_D q0 da = da := own_Dn (fun z => hc123 (own_lcz.mpr z))
          have nD1 : ¬ da = 0 := fun z => hc130 (own_lcz.mpr z)
          refine Runs.by (fun _ hr => XS.lloadN X65.here hx rfl (hb hby at_140) rfl  hr) ?_
          refine Runs.by (fun _ hr => XS.lconst X65.here hx rfl (hb hby at_141) hr) ?_
          show Runs p e below _ (T65.setTop (mkF m 142 #[.val (.long q0), .second, .val (.long q1), .second, .val (.int p2), .val (.int p3), .val (.int p4), .val (.long da), .second, .val (.long db), .second, .val (.int (1 : Int32)), .val (.int (0 : Int32)), .val (.ref b45), .val (.int (0 : Int32)), .val (.int s2), .val (.int s3), .val (.int (1 : Int32)), .unset, .unset, .unset, .unset, .unset, .unset, .unset] [(.long (0 : Int64)), (.long q1)]))
          refine Runs.by (fun _ hr => XS.lcmp X65.here hx rfl (hb hby at_142) rfl hr) ?_
          by_cases hc143 : (lcmpW q1 (0 : Int64)) = (0 : Int32)
          · -- pc 143: (lcmpW q1 (0 : Int64)) = (0 : Int32)
            refine Runs.by (fun _ hr => XS.ifYes X65.here hx rfl (pc0 := 143) (pc' := 157) rfl (hb hby at_143) rfl ((if0 _ _).trans (teq hc143).1) (by decide) (by decide) hr) ?_
            refine Runs.by (fun _ hr => XS.iconst X65.here hx rfl (hb hby at_157) hr) ?_
            show Runs p e below _ (T65.setTop (mkF m 158 #[.val (.long q0), .second, .val (.long q1), .second, .val (.int p2), .val (.int p3), .val (.int p4), .val (.long da), .second, .val (.long db), .second, .val (.int (1 : Int32)), .val (.int (0 : Int32)), .val (.ref b45), .val (.int (0 : Int32)), .val (.int s2), .val (.int s3), .val (.int (1 : Int32)), .unset, .unset, .unset, .unset, .unset, .unset, .unset] [(.int (0 : Int32))]))
            refine Runs.by (fun _ hr => XS.istore X65.here hx rfl (hb hby at_158) rfl (l' := #[.val (.long q0), .second, .val (.long q1), .second, .val (.int p2), .val (.int p3), .val (.int p4), .val (.long da), .second, .val (.long db), .second, .val (.int (1 : Int32)), .val (.int (0 : Int32)), .val (.ref b45), .val (.int (0 : Int32)), .val (.int s2), .val (.int s3), .val (.int (1 : Int32)), .val (.int (0 : Int32)), .unset, .unset, .unset, .unset, .unset, .unset]) rfl hr) ?_
            have zD2 : own_D q1 db = 0 := own_Dz1 (own_lcz.mp hc143)
            refine Runs.by (fun _ hr => XS.iload X65.here hx rfl (hb hby at_160) rfl  hr) ?_
            have hc162 : ¬ ((1 : Int32) = (0 : Int32)) := (by decide)
            refine Runs.by (fun _ hr => XS.ifNo X65.here hx rfl (hb hby at_162) rfl ((if0 _ _).trans (feq hc162).1) hr) ?_
            show Runs p e below _ (T65.setTop (mkF m 165 #[.val (.long q0), .second, .val (.long q1), .second, .val (.int p2), .val (.int p3), .val (.int p4), .val (.long da), .second, .val (.long db), .second, .val (.int (1 : Int32)), .val (.int (0 : Int32)), .val (.ref b45), .val (.int (0 : Int32)), .val (.int s2), .val (.int s3), .val (.int (1 : Int32)), .val (.int (0 : Int32)), .unset, .unset, .unset, .unset, .unset, .unset] []))
            refine Runs.by (fun _ hr => XS.iload X65.here hx rfl (hb hby at_165) rfl  hr) ?_
            have hc167 : ¬ ((1 : Int32) = (0 : Int32)) := (by decide)
            refine Runs.by (fun _ hr => XS.ifYes X65.here hx rfl (pc0 := 167) (pc' := 174) rfl (hb hby at_167) rfl ((if0 _ _).trans (feq hc167).2) (by decide) (by decide) hr) ?_
            refine Runs.by (fun _ hr => XS.iconst X65.here hx rfl (hb hby at_174) hr) ?_
            show Runs p e below _ (T65.setTop (mkF m 175 #[.val (.long q0), .second, .val (.long q1), .second, .val (.int p2), .val (.int p3), .val (.int p4), .val (.long da), .second, .val (.long db), .second, .val (.int (1 : Int32)), .val (.int (0 : Int32)), .val (.ref b45), .val (.int (0 : Int32)), .val (.int s2), .val (.int s3), .val (.int (1 : Int32)), .val (.int (0 : Int32)), .unset, .unset, .unset, .unset, .unset, .unset] [(.int (0 : Int32))]))
            refine Runs.by (fun _ hr => XS.istore X65.here hx rfl (hb hby at_175) rfl (l' := #[.val (.long q0), .second, .val (.long q1), .second, .val (.int p2), .val (.int p3), .val (.int p4), .val (.long da), .second, .val (.long db), .second, .val (.int (1 : Int32)), .val (.int (0 : Int32)), .val (.ref b45), .val (.int (0 : Int32)), .val (.int s2), .val (.int s3), .val (.int (1 : Int32)), .val (.int (0 : Int32)), .val (.int (0 : Int32)), .unset, .unset, .unset, .unset, .unset]) rfl hr) ?_
            refine Runs.by (fun _ hr => XS.iload X65.here hx rfl (hb hby at_177) rfl  hr) ?_
            have hc179 : ¬ ((1 : Int32) = (0 : Int32)) := (by decide)
            refine Runs.by (fun _ hr => XS.ifNo X65.here hx rfl (hb hby at_179) rfl ((if0 _ _).trans (feq hc179).1) hr) ?_
            show Runs p e below _ (T65.setTop (mkF m 182 #[.val (.long q0), .second, .val (.long q1), .second, .val (.int p2), .val (.int p3), .val (.int p4), .val (.long da), .second, .val (.long db), .second, .val (.int (1 : Int32)), .val (.int (0 : Int32)), .val (.ref b45), .val (.int (0 : Int32)), .val (.int s2), .val (.int s3), .val (.int (1 : Int32)), .val (.int (0 : Int32)), .val (.int (0 : Int32)), .unset, .unset, .unset, .unset, .unset] []))
            refine Runs.by (fun _ hr => XS.iload X65.here hx rfl (hb hby at_182) rfl  hr) ?_
            have hc184 : (0 : Int32) = (0 : Int32) := (by decide)
            refine Runs.by (fun _ hr => XS.ifYes X65.here hx rfl (pc0 := 184) (pc' := 248) rfl (hb hby at_184) rfl ((if0 _ _).trans (teq hc184).1) (by decide) (by decide) hr) ?_
            refine Runs.by (fun _ hr => XS.iload X65.here hx rfl (hb hby at_248) rfl  hr) ?_
            show Runs p e below _ (T65.setTop (mkF m 250 #[.val (.long q0), .second, .val (.long q1), .second, .val (.int p2), .val (.int p3), .val (.int p4), .val (.long da), .second, .val (.long db), .second, .val (.int (1 : Int32)), .val (.int (0 : Int32)), .val (.ref b45), .val (.int (0 : Int32)), .val (.int s2), .val (.int s3), .val (.int (1 : Int32)), .val (.int (0 : Int32)), .val (.int (0 : Int32)), .unset, .unset, .unset, .unset, .unset] [(.int (1 : Int32))]))
            have hc250 : ¬ ((1 : Int32) = (0 : Int32)) := (by decide)
            refine Runs.by (fun _ hr => XS.ifNo X65.here hx rfl (hb hby at_250) rfl ((if0 _ _).trans (feq hc250).1) hr) ?_
            refine Runs.by (fun _ hr => XS.iload X65.here hx rfl (hb hby at_253) rfl  hr) ?_
            have hc255 : ¬ ((1 : Int32) = (0 : Int32)) := (by decide)
            refine Runs.by (fun _ hr => XS.ifNo X65.here hx rfl (hb hby at_255) rfl ((if0 _ _).trans (feq hc255).1) hr) ?_
            show Runs p e below _ (T65.setTop (mkF m 258 #[.val (.long q0), .second, .val (.long q1), .second, .val (.int p2), .val (.int p3), .val (.int p4), .val (.long da), .second, .val (.long db), .second, .val (.int (1 : Int32)), .val (.int (0 : Int32)), .val (.ref b45), .val (.int (0 : Int32)), .val (.int s2), .val (.int s3), .val (.int (1 : Int32)), .val (.int (0 : Int32)), .val (.int (0 : Int32)), .unset, .unset, .unset, .unset, .unset] []))
            refine Runs.by (fun _ hr => XS.iload X65.here hx rfl (hb hby at_258) rfl  hr) ?_
            have hc260 : (0 : Int32) = (0 : Int32) := (by decide)
            refine Runs.by (fun _ hr => XS.ifYes X65.here hx rfl (pc0 := 260) (pc' := 272) rfl (hb hby at_260) rfl ((if0 _ _).trans (teq hc260).1) (by decide) (by decide) hr) ?_
            refine Runs.by (fun _ hr => XS.iconst X65.here hx rfl (hb hby at_272) hr) ?_
            show Runs p e below _ (T65.setTop (mkF m 273 #[.val (.long q0), .second, .val (.long q1), .second, .val (.int p2), .val (.int p3), .val (.int p4), .val (.long da), .second, .val (.long db), .second, .val (.int (1 : Int32)), .val (.int (0 : Int32)), .val (.ref b45), .val (.int (0 : Int32)), .val (.int s2), .val (.int s3), .val (.int (1 : Int32)), .val (.int (0 : Int32)), .val (.int (0 : Int32)), .unset, .unset, .unset, .unset, .unset] [(.int (0 : Int32))]))
            refine Runs.by (fun _ hr => XS.istore X65.here hx rfl (hb hby at_273) rfl (l' := #[.val (.long q0), .second, .val (.long q1), .second, .val (.int p2), .val (.int p3), .val (.int p4), .val (.long da), .second, .val (.long db), .second, .val (.int (1 : Int32)), .val (.int (0 : Int32)), .val (.ref b45), .val (.int (0 : Int32)), .val (.int s2), .val (.int s3), .val (.int (1 : Int32)), .val (.int (0 : Int32)), .val (.int (0 : Int32)), .val (.int (0 : Int32)), .unset, .unset, .unset, .unset]) rfl hr) ?_
            refine Runs.by (fun _ hr => XS.iload X65.here hx rfl (hb hby at_275) rfl  hr) ?_
            have hc277 : (0 : Int32) = (0 : Int32) := (by decide)
            refine Runs.by (fun _ hr => XS.ifNo X65.here hx rfl (hb hby at_277) rfl ((if0 _ _).trans (teq hc277).2) hr) ?_
            show Runs p e below _ (T65.setTop (mkF m 280 #[.val (.long q0), .second, .val (.long q1), .second, .val (.int p2), .val (.int p3), .val (.int p4), .val (.long da), .second, .val (.long db), .second, .val (.int (1 : Int32)), .val (.int (0 : Int32)), .val (.ref b45), .val (.int (0 : Int32)), .val (.int s2), .val (.int s3), .val (.int (1 : Int32)), .val (.int (0 : Int32)), .val (.int (0 : Int32)), .val (.int (0 : Int32)), .unset, .unset, .unset, .unset] []))
            refine Runs.by (fun _ hr => XS.iload X65.here hx rfl (hb hby at_280) rfl  hr) ?_
            refine Runs.by (fun _ hr => XS.iload X65.here hx rfl (hb hby at_282) rfl  hr) ?_
            have hc284 : s2 = (0 : Int32) := hs2
            refine Runs.by (fun _ hr => XS.icmpNo X65.here hx rfl (hb hby at_284) rfl (teq hc284).2 hr) ?_
            show Runs p e below _ (T65.setTop (mkF m 287 #[.val (.long q0), .second, .val (.long q1), .second, .val (.int p2), .val (.int p3), .val (.int p4), .val (.long da), .second, .val (.long db), .second, .val (.int (1 : Int32)), .val (.int (0 : Int32)), .val (.ref b45), .val (.int (0 : Int32)), .val (.int s2), .val (.int s3), .val (.int (1 : Int32)), .val (.int (0 : Int32)), .val (.int (0 : Int32)), .val (.int (0 : Int32)), .unset, .unset, .unset, .unset] []))
            refine Runs.by (fun _ hr => XS.iload X65.here hx rfl (hb hby at_287) rfl  hr) ?_
            refine Runs.by (fun _ hr => XS.iload X65.here hx rfl (hb hby at_289) rfl  hr) ?_
            have hc291 : s3 = (0 : Int32) := (by simp [hs3, zD1, zD2, nD1])
            refine Runs.by (fun _ hr => XS.icmpNo X65.here hx rfl (hb hby at_291) rfl (teq hc291).2 hr) ?_
            show Runs p e below _ (T65.setTop (mkF m 294 #[.val (.long q0), .second, .val (.long q1), .second, .val (.int p2), .val (.int p3), .val (.int p4), .val (.long da), .second, .val (.long db), .second, .val (.int (1 : Int32)), .val (.int (0 : Int32)), .val (.ref b45), .val (.int (0 : Int32)), .val (.int s2), .val (.int s3), .val (.int (1 : Int32)), .val (.int (0 : Int32)), .val (.int (0 : Int32)), .val (.int (0 : Int32)), .unset, .unset, .unset, .unset] []))
            refine Runs.by (fun _ hr => XS.iconst X65.here hx rfl (hb hby at_294) hr) ?_
            refine Runs.by (fun _ hr => XS.goto X65.here hx rfl (pc0 := 295) (pc' := 299) rfl (hb hby at_295) (by decide) (by decide) hr) ?_
            show Runs p e below _ (T65.setTop (mkF m 299 #[.val (.long q0), .second, .val (.long q1), .second, .val (.int p2), .val (.int p3), .val (.int p4), .val (.long da), .second, .val (.long db), .second, .val (.int (1 : Int32)), .val (.int (0 : Int32)), .val (.ref b45), .val (.int (0 : Int32)), .val (.int s2), .val (.int s3), .val (.int (1 : Int32)), .val (.int (0 : Int32)), .val (.int (0 : Int32)), .val (.int (0 : Int32)), .unset, .unset, .unset, .unset] [(.int (1 : Int32))]))
            refine Runs.ret X65 hx hrt hlk (Or.inl ⟨rfl, by simp, _, rfl⟩) (by rfl) (hb hby at_299) (by decide) (by decide) ?_
            exact ⟨rfl, N65⟩
          · -- pc 143: not (lcmpW q1 (0 : Int64)) = (0 : Int32)
            refine Runs.by (fun _ hr => XS.ifNo X65.here hx rfl (hb hby at_143) rfl ((if0 _ _).trans (feq hc143).1) hr) ?_
            refine Runs.by (fun _ hr => XS.lload X65.here hx rfl (hb hby at_146) rfl  hr) ?_
            show Runs p e below _ (T65.setTop (mkF m 148 #[.val (.long q0), .second, .val (.long q1), .second, .val (.int p2), .val (.int p3), .val (.int p4), .val (.long da), .second, .val (.long db), .second, .val (.int (1 : Int32)), .val (.int (0 : Int32)), .val (.ref b45), .val (.int (0 : Int32)), .val (.int s2), .val (.int s3), .val (.int (1 : Int32)), .unset, .unset, .unset, .unset, .unset, .unset, .unset] [(.long db)]))
            refine Runs.by (fun _ hr => XS.lconst X65.here hx rfl (hb hby at_148) hr) ?_
            refine Runs.by (fun _ hr => XS.lcmp X65.here hx rfl (hb hby at_149) rfl hr) ?_
            by_cases hc150 : (lcmpW db (0 : Int64)) = (0 : Int32)
            · -- pc 150: (lcmpW db (0 : Int64)) = (0 : Int32)
              refine Runs.by (fun _ hr => XS.ifYes X65.here hx rfl (pc0 := 150) (pc' := 157) rfl (hb hby at_150) rfl ((if0 _ _).trans (teq hc150).1) (by decide) (by decide) hr) ?_
              show Runs p e below _ (T65.setTop (mkF m 157 #[.val (.long q0), .second, .val (.long q1), .second, .val (.int p2), .val (.int p3), .val (.int p4), .val (.long da), .second, .val (.long db), .second, .val (.int (1 : Int32)), .val (.int (0 : Int32)), .val (.ref b45), .val (.int (0 : Int32)), .val (.int s2), .val (.int s3), .val (.int (1 : Int32)), .unset, .unset, .unset, .unset, .unset, .unset, .unset] []))
              refine Runs.by (fun _ hr => XS.iconst X65.here hx rfl (hb hby at_157) hr) ?_
              refine Runs.by (fun _ hr => XS.istore X65.here hx rfl (hb hby at_158) rfl (l' := #[.val (.long q0), .second, .val (.long q1), .second, .val (.int p2), .val (.int p3), .val (.int p4), .val (.long da), .second, .val (.long db), .second, .val (.int (1 : Int32)), .val (.int (0 : Int32)), .val (.ref b45), .val (.int (0 : Int32)), .val (.int s2), .val (.int s3), .val (.int (1 : Int32)), .val (.int (0 : Int32)), .unset, .unset, .unset, .unset, .unset, .unset]) rfl hr) ?_
              have zD2 : own_D q1 db = 0 := own_Dz2 (own_lcz.mp hc150)
              refine Runs.by (fun _ hr => XS.iload X65.here hx rfl (hb hby at_160) rfl  hr) ?_
              show Runs p e below _ (T65.setTop (mkF m 162 #[.val (.long q0), .second, .val (.long q1), .second, .val (.int p2), .val (.int p3), .val (.int p4), .val (.long da), .second, .val (.long db), .second, .val (.int (1 : Int32)), .val (.int (0 : Int32)), .val (.ref b45), .val (.int (0 : Int32)), .val (.int s2), .val (.int s3), .val (.int (1 : Int32)), .val (.int (0 : Int32)), .unset, .unset, .unset, .unset, .unset, .unset] [(.int (1 : Int32))]))
              have hc162 : ¬ ((1 : Int32) = (0 : Int32)) := (by decide)
              refine Runs.by (fun _ hr => XS.ifNo X65.here hx rfl (hb hby at_162) rfl ((if0 _ _).trans (feq hc162).1) hr) ?_
              refine Runs.by (fun _ hr => XS.iload X65.here hx rfl (hb hby at_165) rfl  hr) ?_
              have hc167 : ¬ ((1 : Int32) = (0 : Int32)) := (by decide)
              refine Runs.by (fun _ hr => XS.ifYes X65.here hx rfl (pc0 := 167) (pc' := 174) rfl (hb hby at_167) rfl ((if0 _ _).trans (feq hc167).2) (by decide) (by decide) hr) ?_
              show Runs p e below _ (T65.setTop (mkF m 174 #[.val (.long q0), .second, .val (.long q1), .second, .val (.int p2), .val (.int p3), .val (.int p4), .val (.long da), .second, .val (.long db), .second, .val (.int (1 : Int32)), .val (.int (0 : Int32)), .val (.ref b45), .val (.int (0 : Int32)), .val (.int s2), .val (.int s3), .val (.int (1 : Int32)), .val (.int (0 : Int32)), .unset, .unset, .unset, .unset, .unset, .unset] []))
              refine Runs.by (fun _ hr => XS.iconst X65.here hx rfl (hb hby at_174) hr) ?_
              refine Runs.by (fun _ hr => XS.istore X65.here hx rfl (hb hby at_175) rfl (l' := #[.val (.long q0), .second, .val (.long q1), .second, .val (.int p2), .val (.int p3), .val (.int p4), .val (.long da), .second, .val (.long db), .second, .val (.int (1 : Int32)), .val (.int (0 : Int32)), .val (.ref b45), .val (.int (0 : Int32)), .val (.int s2), .val (.int s3), .val (.int (1 : Int32)), .val (.int (0 : Int32)), .val (.int (0 : Int32)), .unset, .unset, .unset, .unset, .unset]) rfl hr) ?_
              refine Runs.by (fun _ hr => XS.iload X65.here hx rfl (hb hby at_177) rfl  hr) ?_
              show Runs p e below _ (T65.setTop (mkF m 179 #[.val (.long q0), .second, .val (.long q1), .second, .val (.int p2), .val (.int p3), .val (.int p4), .val (.long da), .second, .val (.long db), .second, .val (.int (1 : Int32)), .val (.int (0 : Int32)), .val (.ref b45), .val (.int (0 : Int32)), .val (.int s2), .val (.int s3), .val (.int (1 : Int32)), .val (.int (0 : Int32)), .val (.int (0 : Int32)), .unset, .unset, .unset, .unset, .unset] [(.int (1 : Int32))]))
              have hc179 : ¬ ((1 : Int32) = (0 : Int32)) := (by decide)
              refine Runs.by (fun _ hr => XS.ifNo X65.here hx rfl (hb hby at_179) rfl ((if0 _ _).trans (feq hc179).1) hr) ?_
              refine Runs.by (fun _ hr => XS.iload X65.here hx rfl (hb hby at_182) rfl  hr) ?_
              have hc184 : (0 : Int32) = (0 : Int32) := (by decide)
              refine Runs.by (fun _ hr => XS.ifYes X65.here hx rfl (pc0 := 184) (pc' := 248) rfl (hb hby at_184) rfl ((if0 _ _).trans (teq hc184).1) (by decide) (by decide) hr) ?_
              show Runs p e below _ (T65.setTop (mkF m 248 #[.val (.long q0), .second, .val (.long q1), .second, .val (.int p2), .val (.int p3), .val (.int p4), .val (.long da), .second, .val (.long db), .second, .val (.int (1 : Int32)), .val (.int (0 : Int32)), .val (.ref b45), .val (.int (0 : Int32)), .val (.int s2), .val (.int s3), .val (.int (1 : Int32)), .val (.int (0 : Int32)), .val (.int (0 : Int32)), .unset, .unset, .unset, .unset, .unset] []))
              refine Runs.by (fun _ hr => XS.iload X65.here hx rfl (hb hby at_248) rfl  hr) ?_
              have hc250 : ¬ ((1 : Int32) = (0 : Int32)) := (by decide)
              refine Runs.by (fun _ hr => XS.ifNo X65.here hx rfl (hb hby at_250) rfl ((if0 _ _).trans (feq hc250).1) hr) ?_
              refine Runs.by (fun _ hr => XS.iload X65.here hx rfl (hb hby at_253) rfl  hr) ?_
              show Runs p e below _ (T65.setTop (mkF m 255 #[.val (.long q0), .second, .val (.long q1), .second, .val (.int p2), .val (.int p3), .val (.int p4), .val (.long da), .second, .val (.long db), .second, .val (.int (1 : Int32)), .val (.int (0 : Int32)), .val (.ref b45), .val (.int (0 : Int32)), .val (.int s2), .val (.int s3), .val (.int (1 : Int32)), .val (.int (0 : Int32)), .val (.int (0 : Int32)), .unset, .unset, .unset, .unset, .unset] [(.int (1 : Int32))]))
              have hc255 : ¬ ((1 : Int32) = (0 : Int32)) := (by decide)
              refine Runs.by (fun _ hr => XS.ifNo X65.here hx rfl (hb hby at_255) rfl ((if0 _ _).trans (feq hc255).1) hr) ?_
              refine Runs.by (fun _ hr => XS.iload X65.here hx rfl (hb hby at_258) rfl  hr) ?_
              have hc260 : (0 : Int32) = (0 : Int32) := (by decide)
              refine Runs.by (fun _ hr => XS.ifYes X65.here hx rfl (pc0 := 260) (pc' := 272) rfl (hb hby at_260) rfl ((if0 _ _).trans (teq hc260).1) (by decide) (by decide) hr) ?_
              show Runs p e below _ (T65.setTop (mkF m 272 #[.val (.long q0), .second, .val (.long q1), .second, .val (.int p2), .val (.int p3), .val (.int p4), .val (.long da), .second, .val (.long db), .second, .val (.int (1 : Int32)), .val (.int (0 : Int32)), .val (.ref b45), .val (.int (0 : Int32)), .val (.int s2), .val (.int s3), .val (.int (1 : Int32)), .val (.int (0 : Int32)), .val (.int (0 : Int32)), .unset, .unset, .unset, .unset, .unset] []))
              refine Runs.by (fun _ hr => XS.iconst X65.here hx rfl (hb hby at_272) hr) ?_
              refine Runs.by (fun _ hr => XS.istore X65.here hx rfl (hb hby at_273) rfl (l' := #[.val (.long q0), .second, .val (.long q1), .second, .val (.int p2), .val (.int p3), .val (.int p4), .val (.long da), .second, .val (.long db), .second, .val (.int (1 : Int32)), .val (.int (0 : Int32)), .val (.ref b45), .val (.int (0 : Int32)), .val (.int s2), .val (.int s3), .val (.int (1 : Int32)), .val (.int (0 : Int32)), .val (.int (0 : Int32)), .val (.int (0 : Int32)), .unset, .unset, .unset, .unset]) rfl hr) ?_
              refine Runs.by (fun _ hr => XS.iload X65.here hx rfl (hb hby at_275) rfl  hr) ?_
              show Runs p e below _ (T65.setTop (mkF m 277 #[.val (.long q0), .second, .val (.long q1), .second, .val (.int p2), .val (.int p3), .val (.int p4), .val (.long da), .second, .val (.long db), .second, .val (.int (1 : Int32)), .val (.int (0 : Int32)), .val (.ref b45), .val (.int (0 : Int32)), .val (.int s2), .val (.int s3), .val (.int (1 : Int32)), .val (.int (0 : Int32)), .val (.int (0 : Int32)), .val (.int (0 : Int32)), .unset, .unset, .unset, .unset] [(.int (0 : Int32))]))
              have hc277 : (0 : Int32) = (0 : Int32) := (by decide)
              refine Runs.by (fun _ hr => XS.ifNo X65.here hx rfl (hb hby at_277) rfl ((if0 _ _).trans (teq hc277).2) hr) ?_
              refine Runs.by (fun _ hr => XS.iload X65.here hx rfl (hb hby at_280) rfl  hr) ?_
              refine Runs.by (fun _ hr => XS.iload X65.here hx rfl (hb hby at_282) rfl  hr) ?_
              show Runs p e below _ (T65.setTop (mkF m 284 #[.val (.long q0), .second, .val (.long q1), .second, .val (.int p2), .val (.int p3), .val (.int p4), .val (.long da), .second, .val (.long db), .second, .val (.int (1 : Int32)), .val (.int (0 : Int32)), .val (.ref b45), .val (.int (0 : Int32)), .val (.int s2), .val (.int s3), .val (.int (1 : Int32)), .val (.int (0 : Int32)), .val (.int (0 : Int32)), .val (.int (0 : Int32)), .unset, .unset, .unset, .unset] [(.int (0 : Int32)), (.int s2)]))
              have hc284 : s2 = (0 : Int32) := hs2
              refine Runs.by (fun _ hr => XS.icmpNo X65.here hx rfl (hb hby at_284) rfl (teq hc284).2 hr) ?_
              refine Runs.by (fun _ hr => XS.iload X65.here hx rfl (hb hby at_287) rfl  hr) ?_
              refine Runs.by (fun _ hr => XS.iload X65.here hx rfl (hb hby at_289) rfl  hr) ?_
              show Runs p e below _ (T65.setTop (mkF m 291 #[.val (.long q0), .second, .val (.long q1), .second, .val (.int p2), .val (.int p3), .val (.int p4), .val (.long da), .second, .val (.long db), .second, .val (.int (1 : Int32)), .val (.int (0 : Int32)), .val (.ref b45), .val (.int (0 : Int32)), .val (.int s2), .val (.int s3), .val (.int (1 : Int32)), .val (.int (0 : Int32)), .val (.int (0 : Int32)), .val (.int (0 : Int32)), .unset, .unset, .unset, .unset] [(.int (0 : Int32)), (.int s3)]))
              have hc291 : s3 = (0 : Int32) := (by simp [hs3, zD1, zD2, nD1])
              refine Runs.by (fun _ hr => XS.icmpNo X65.here hx rfl (hb hby at_291) rfl (teq hc291).2 hr) ?_
              refine Runs.by (fun _ hr => XS.iconst X65.here hx rfl (hb hby at_294) hr) ?_
              refine Runs.by (fun _ hr => XS.goto X65.here hx rfl (pc0 := 295) (pc' := 299) rfl (hb hby at_295) (by decide) (by decide) hr) ?_
              show Runs p e below _ (T65.setTop (mkF m 299 #[.val (.long q0), .second, .val (.long q1), .second, .val (.int p2), .val (.int p3), .val (.int p4), .val (.long da), .second, .val (.long db), .second, .val (.int (1 : Int32)), .val (.int (0 : Int32)), .val (.ref b45), .val (.int (0 : Int32)), .val (.int s2), .val (.int s3), .val (.int (1 : Int32)), .val (.int (0 : Int32)), .val (.int (0 : Int32)), .val (.int (0 : Int32)), .unset, .unset, .unset, .unset] [(.int (1 : Int32))]))
              refine Runs.ret X65 hx hrt hlk (Or.inl ⟨rfl, by simp, _, rfl⟩) (by rfl) (hb hby at_299) (by decide) (by decide) ?_
              exact ⟨rfl, N65⟩
            · -- pc 150: not (lcmpW db (0 : Int64)) = (0 : Int32)
              refine Runs.by (fun _ hr => XS.ifNo X65.here hx rfl (hb hby at_150) rfl ((if0 _ _).trans (feq hc150).1) hr) ?_
              show Runs p e below _ (T65.setTop (mkF m 153 #[.val (.long q0), .second, .val (.long q1), .second, .val (.int p2), .val (.int p3), .val (.int p4), .val (.long da), .second, .val (.long db), .second, .val (.int (1 : Int32)), .val (.int (0 : Int32)), .val (.ref b45), .val (.int (0 : Int32)), .val (.int s2), .val (.int s3), .val (.int (1 : Int32)), .unset, .unset, .unset, .unset, .unset, .unset, .unset] []))
              refine Runs.by (fun _ hr => XS.iconst X65.here hx rfl (hb hby at_153) hr) ?_
              refine Runs.by (fun _ hr => XS.goto X65.here hx rfl (pc0 := 154) (pc' := 158) rfl (hb hby at_154) (by decide) (by decide) hr) ?_
              refine Runs.by (fun _ hr => XS.istore X65.here hx rfl (hb hby at_158) rfl (l' := #[.val (.long q0), .second, .val (.long q1), .second, .val (.int p2), .val (.int p3), .val (.int p4), .val (.long da), .second, .val (.long db), .second, .val (.int (1 : Int32)), .val (.int (0 : Int32)), .val (.ref b45), .val (.int (0 : Int32)), .val (.int s2), .val (.int s3), .val (.int (1 : Int32)), .val (.int (1 : Int32)), .unset, .unset, .unset, .unset, .unset, .unset]) rfl hr) ?_
              have zD2 : own_D q1 db = db := own_Dn (fun z => hc143 (own_lcz.mpr z))
              have nD2 : ¬ db = 0 := fun z => hc150 (own_lcz.mpr z)
              show Runs p e below _ (T65.setTop (mkF m 160 #[.val (.long q0), .second, .val (.long q1), .second, .val (.int p2), .val (.int p3), .val (.int p4), .val (.long da), .second, .val (.long db), .second, .val (.int (1 : Int32)), .val (.int (0 : Int32)), .val (.ref b45), .val (.int (0 : Int32)), .val (.int s2), .val (.int s3), .val (.int (1 : Int32)), .val (.int (1 : Int32)), .unset, .unset, .unset, .unset, .unset, .unset] []))
              refine Runs.by (fun _ hr => XS.iload X65.here hx rfl (hb hby at_160) rfl  hr) ?_
              have hc162 : ¬ ((1 : Int32) = (0 : Int32)) := (by decide)
              refine Runs.by (fun _ hr => XS.ifNo X65.here hx rfl (hb hby at_162) rfl ((if0 _ _).trans (feq hc162).1) hr) ?_
              refine Runs.by (fun _ hr => XS.iload X65.here hx rfl (hb hby at_165) rfl  hr) ?_
              show Runs p e below _ (T65.setTop (mkF m 167 #[.val (.long q0), .second, .val (.long q1), .second, .val (.int p2), .val (.int p3), .val (.int p4), .val (.long da), .second, .val (.long db), .second, .val (.int (1 : Int32)), .val (.int (0 : Int32)), .val (.ref b45), .val (.int (0 : Int32)), .val (.int s2), .val (.int s3), .val (.int (1 : Int32)), .val (.int (1 : Int32)), .unset, .unset, .unset, .unset, .unset, .unset] [(.int (1 : Int32))]))
              have hc167 : ¬ ((1 : Int32) = (0 : Int32)) := (by decide)
              refine Runs.by (fun _ hr => XS.ifYes X65.here hx rfl (pc0 := 167) (pc' := 174) rfl (hb hby at_167) rfl ((if0 _ _).trans (feq hc167).2) (by decide) (by decide) hr) ?_
              refine Runs.by (fun _ hr => XS.iconst X65.here hx rfl (hb hby at_174) hr) ?_
              refine Runs.by (fun _ hr => XS.istore X65.here hx rfl (hb hby at_175) rfl (l' := #[.val (.long q0), .second, .val (.long q1), .second, .val (.int p2), .val (.int p3), .val (.int p4), .val (.long da), .second, .val (.long db), .second, .val (.int (1 : Int32)), .val (.int (0 : Int32)), .val (.ref b45), .val (.int (0 : Int32)), .val (.int s2), .val (.int s3), .val (.int (1 : Int32)), .val (.int (1 : Int32)), .val (.int (0 : Int32)), .unset, .unset, .unset, .unset, .unset]) rfl hr) ?_
              show Runs p e below _ (T65.setTop (mkF m 177 #[.val (.long q0), .second, .val (.long q1), .second, .val (.int p2), .val (.int p3), .val (.int p4), .val (.long da), .second, .val (.long db), .second, .val (.int (1 : Int32)), .val (.int (0 : Int32)), .val (.ref b45), .val (.int (0 : Int32)), .val (.int s2), .val (.int s3), .val (.int (1 : Int32)), .val (.int (1 : Int32)), .val (.int (0 : Int32)), .unset, .unset, .unset, .unset, .unset] []))
              refine Runs.by (fun _ hr => XS.iload X65.here hx rfl (hb hby at_177) rfl  hr) ?_
              have hc179 : ¬ ((1 : Int32) = (0 : Int32)) := (by decide)
              refine Runs.by (fun _ hr => XS.ifNo X65.here hx rfl (hb hby at_179) rfl ((if0 _ _).trans (feq hc179).1) hr) ?_
              refine Runs.by (fun _ hr => XS.iload X65.here hx rfl (hb hby at_182) rfl  hr) ?_
              show Runs p e below _ (T65.setTop (mkF m 184 #[.val (.long q0), .second, .val (.long q1), .second, .val (.int p2), .val (.int p3), .val (.int p4), .val (.long da), .second, .val (.long db), .second, .val (.int (1 : Int32)), .val (.int (0 : Int32)), .val (.ref b45), .val (.int (0 : Int32)), .val (.int s2), .val (.int s3), .val (.int (1 : Int32)), .val (.int (1 : Int32)), .val (.int (0 : Int32)), .unset, .unset, .unset, .unset, .unset] [(.int (1 : Int32))]))
              have hc184 : ¬ ((1 : Int32) = (0 : Int32)) := (by decide)
              refine Runs.by (fun _ hr => XS.ifNo X65.here hx rfl (hb hby at_184) rfl ((if0 _ _).trans (feq hc184).1) hr) ?_
              refine Runs.by (fun _ hr => XS.iload X65.here hx rfl (hb hby at_187) rfl  hr) ?_
              refine Runs.by (fun _ hr => XS.iload X65.here hx rfl (hb hby at_189) rfl  hr) ?_
              show Runs p e below _ (T65.setTop (mkF m 191 #[.val (.long q0), .second, .val (.long q1), .second, .val (.int p2), .val (.int p3), .val (.int p4), .val (.long da), .second, .val (.long db), .second, .val (.int (1 : Int32)), .val (.int (0 : Int32)), .val (.ref b45), .val (.int (0 : Int32)), .val (.int s2), .val (.int s3), .val (.int (1 : Int32)), .val (.int (1 : Int32)), .val (.int (0 : Int32)), .unset, .unset, .unset, .unset, .unset] [(.int (0 : Int32)), (.int (1 : Int32))]))
              have hc191 : ¬ ((1 : Int32) = (0 : Int32)) := (by decide)
              refine Runs.by (fun _ hr => XS.icmpNo X65.here hx rfl (hb hby at_191) rfl (feq hc191).1 hr) ?_
              refine Runs.by (fun _ hr => XS.iload X65.here hx rfl (hb hby at_194) rfl  hr) ?_
              have hc196 : (0 : Int32) = (0 : Int32) := (by decide)
              refine Runs.by (fun _ hr => XS.ifYes X65.here hx rfl (pc0 := 196) (pc' := 204) rfl (hb hby at_196) rfl ((if0 _ _).trans (teq hc196).1) (by decide) (by decide) hr) ?_
              show Runs p e below _ (T65.setTop (mkF m 204 #[.val (.long q0), .second, .val (.long q1), .second, .val (.int p2), .val (.int p3), .val (.int p4), .val (.long da), .second, .val (.long db), .second, .val (.int (1 : Int32)), .val (.int (0 : Int32)), .val (.ref b45), .val (.int (0 : Int32)), .val (.int s2), .val (.int s3), .val (.int (1 : Int32)), .val (.int (1 : Int32)), .val (.int (0 : Int32)), .unset, .unset, .unset, .unset, .unset] []))
              refine Runs.by (fun _ hr => XS.lload X65.here hx rfl (hb hby at_204) rfl  hr) ?_
              refine Runs.by (fun _ hr => XS.lstore X65.here hx rfl (hb hby at_206) rfl (l' := #[.val (.long q0), .second, .val (.long q1), .second, .val (.int p2), .val (.int p3), .val (.int p4), .val (.long da), .second, .val (.long db), .second, .val (.int (1 : Int32)), .val (.int (0 : Int32)), .val (.ref b45), .val (.int (0 : Int32)), .val (.int s2), .val (.int s3), .val (.int (1 : Int32)), .val (.int (1 : Int32)), .val (.int (0 : Int32)), .unset, .val (.long da), .second, .unset, .unset]) rfl hr) ?_
              refine Runs.by (fun _ hr => XS.iload X65.here hx rfl (hb hby at_208) rfl  hr) ?_
              show Runs p e below _ (T65.setTop (mkF m 210 #[.val (.long q0), .second, .val (.long q1), .second, .val (.int p2), .val (.int p3), .val (.int p4), .val (.long da), .second, .val (.long db), .second, .val (.int (1 : Int32)), .val (.int (0 : Int32)), .val (.ref b45), .val (.int (0 : Int32)), .val (.int s2), .val (.int s3), .val (.int (1 : Int32)), .val (.int (1 : Int32)), .val (.int (0 : Int32)), .unset, .val (.long da), .second, .unset, .unset] [(.int (0 : Int32))]))
              have hc210 : (0 : Int32) = (0 : Int32) := (by decide)
              refine Runs.by (fun _ hr => XS.ifYes X65.here hx rfl (pc0 := 210) (pc' := 218) rfl (hb hby at_210) rfl ((if0 _ _).trans (teq hc210).1) (by decide) (by decide) hr) ?_
              refine Runs.by (fun _ hr => XS.lload X65.here hx rfl (hb hby at_218) rfl  hr) ?_
              refine Runs.by (fun _ hr => XS.lstore X65.here hx rfl (hb hby at_220) rfl (l' := #[.val (.long q0), .second, .val (.long q1), .second, .val (.int p2), .val (.int p3), .val (.int p4), .val (.long da), .second, .val (.long db), .second, .val (.int (1 : Int32)), .val (.int (0 : Int32)), .val (.ref b45), .val (.int (0 : Int32)), .val (.int s2), .val (.int s3), .val (.int (1 : Int32)), .val (.int (1 : Int32)), .val (.int (0 : Int32)), .unset, .val (.long da), .second, .val (.long db), .second]) rfl hr) ?_
              show Runs p e below _ (T65.setTop (mkF m 222 #[.val (.long q0), .second, .val (.long q1), .second, .val (.int p2), .val (.int p3), .val (.int p4), .val (.long da), .second, .val (.long db), .second, .val (.int (1 : Int32)), .val (.int (0 : Int32)), .val (.ref b45), .val (.int (0 : Int32)), .val (.int s2), .val (.int s3), .val (.int (1 : Int32)), .val (.int (1 : Int32)), .val (.int (0 : Int32)), .unset, .val (.long da), .second, .val (.long db), .second] []))
              refine Runs.by (fun _ hr => X65.ldc2J hx hown (mvT hZ (hw _ (List.mem_of_getElem? (i := 51) rfl))) (g := (mkF m 222 #[.val (.long q0), .second, .val (.long q1), .second, .val (.int p2), .val (.int p3), .val (.int p4), .val (.long da), .second, .val (.long db), .second, .val (.int (1 : Int32)), .val (.int (0 : Int32)), .val (.ref b45), .val (.int (0 : Int32)), .val (.int s2), .val (.int s3), .val (.int (1 : Int32)), .val (.int (1 : Int32)), .val (.int (0 : Int32)), .unset, .val (.long da), .second, .val (.long db), .second] [])) rfl (hb hby at_222) hr) ?_
              refine Runs.by (fun _ hr => XS.lload X65.here hx rfl (hb hby at_225) rfl  hr) ?_
              refine Runs.by (fun _ hr => XS.lmul X65.here hx rfl (hb hby at_227) rfl hr) ?_
              show Runs p e below _ (T65.setTop (mkF m 228 #[.val (.long q0), .second, .val (.long q1), .second, .val (.int p2), .val (.int p3), .val (.int p4), .val (.long da), .second, .val (.long db), .second, .val (.int (1 : Int32)), .val (.int (0 : Int32)), .val (.ref b45), .val (.int (0 : Int32)), .val (.int s2), .val (.int s3), .val (.int (1 : Int32)), .val (.int (1 : Int32)), .val (.int (0 : Int32)), .unset, .val (.long da), .second, .val (.long db), .second] [(.long ((10 : Int64) * da))]))
              refine Runs.by (fun _ hr => X65.ldc2J hx hown (mvT hZ (hw _ (List.mem_of_getElem? (i := 52) rfl))) (g := (mkF m 228 #[.val (.long q0), .second, .val (.long q1), .second, .val (.int p2), .val (.int p3), .val (.int p4), .val (.long da), .second, .val (.long db), .second, .val (.int (1 : Int32)), .val (.int (0 : Int32)), .val (.ref b45), .val (.int (0 : Int32)), .val (.int s2), .val (.int s3), .val (.int (1 : Int32)), .val (.int (1 : Int32)), .val (.int (0 : Int32)), .unset, .val (.long da), .second, .val (.long db), .second] [(.long ((10 : Int64) * da))])) rfl (hb hby at_228) hr) ?_
              refine Runs.by (fun _ hr => XS.lload X65.here hx rfl (hb hby at_231) rfl  hr) ?_
              refine Runs.by (fun _ hr => XS.lmul X65.here hx rfl (hb hby at_233) rfl hr) ?_
              show Runs p e below _ (T65.setTop (mkF m 234 #[.val (.long q0), .second, .val (.long q1), .second, .val (.int p2), .val (.int p3), .val (.int p4), .val (.long da), .second, .val (.long db), .second, .val (.int (1 : Int32)), .val (.int (0 : Int32)), .val (.ref b45), .val (.int (0 : Int32)), .val (.int s2), .val (.int s3), .val (.int (1 : Int32)), .val (.int (1 : Int32)), .val (.int (0 : Int32)), .unset, .val (.long da), .second, .val (.long db), .second] [(.long ((9 : Int64) * db)), (.long ((10 : Int64) * da))]))
              refine Runs.by (fun _ hr => XS.lcmp X65.here hx rfl (hb hby at_234) rfl hr) ?_
              by_cases hc235 : (0 : Int32) < (lcmpW ((10 : Int64) * da) ((9 : Int64) * db))
              · -- pc 235: (0 : Int32) < (lcmpW ((10 : Int64) * da) ((9 : Int64) * db))
                refine Runs.by (fun _ hr => XS.ifYes X65.here hx rfl (pc0 := 235) (pc' := 242) rfl (hb hby at_235) rfl ((if0 _ _).trans (tlt hc235).2.2.1) (by decide) (by decide) hr) ?_
                refine Runs.by (fun _ hr => XS.iconst X65.here hx rfl (hb hby at_242) hr) ?_
                show Runs p e below _ (T65.setTop (mkF m 243 #[.val (.long q0), .second, .val (.long q1), .second, .val (.int p2), .val (.int p3), .val (.int p4), .val (.long da), .second, .val (.long db), .second, .val (.int (1 : Int32)), .val (.int (0 : Int32)), .val (.ref b45), .val (.int (0 : Int32)), .val (.int s2), .val (.int s3), .val (.int (1 : Int32)), .val (.int (1 : Int32)), .val (.int (0 : Int32)), .unset, .val (.long da), .second, .val (.long db), .second] [(.int (0 : Int32))]))
                refine Runs.by (fun _ hr => XS.istore X65.here hx rfl (hb hby at_243) rfl (l' := #[.val (.long q0), .second, .val (.long q1), .second, .val (.int p2), .val (.int p3), .val (.int p4), .val (.long da), .second, .val (.long db), .second, .val (.int (1 : Int32)), .val (.int (0 : Int32)), .val (.ref b45), .val (.int (0 : Int32)), .val (.int s2), .val (.int s3), .val (.int (1 : Int32)), .val (.int (1 : Int32)), .val (.int (0 : Int32)), .val (.int (0 : Int32)), .val (.long da), .second, .val (.long db), .second]) rfl hr) ?_
                refine Runs.by (fun _ hr => XS.goto X65.here hx rfl (pc0 := 245) (pc' := 275) rfl (hb hby at_245) (by decide) (by decide) hr) ?_
                refine Runs.by (fun _ hr => XS.iload X65.here hx rfl (hb hby at_275) rfl  hr) ?_
                show Runs p e below _ (T65.setTop (mkF m 277 #[.val (.long q0), .second, .val (.long q1), .second, .val (.int p2), .val (.int p3), .val (.int p4), .val (.long da), .second, .val (.long db), .second, .val (.int (1 : Int32)), .val (.int (0 : Int32)), .val (.ref b45), .val (.int (0 : Int32)), .val (.int s2), .val (.int s3), .val (.int (1 : Int32)), .val (.int (1 : Int32)), .val (.int (0 : Int32)), .val (.int (0 : Int32)), .val (.long da), .second, .val (.long db), .second] [(.int (0 : Int32))]))
                have hc277 : (0 : Int32) = (0 : Int32) := (by decide)
                refine Runs.by (fun _ hr => XS.ifNo X65.here hx rfl (hb hby at_277) rfl ((if0 _ _).trans (teq hc277).2) hr) ?_
                refine Runs.by (fun _ hr => XS.iload X65.here hx rfl (hb hby at_280) rfl  hr) ?_
                refine Runs.by (fun _ hr => XS.iload X65.here hx rfl (hb hby at_282) rfl  hr) ?_
                show Runs p e below _ (T65.setTop (mkF m 284 #[.val (.long q0), .second, .val (.long q1), .second, .val (.int p2), .val (.int p3), .val (.int p4), .val (.long da), .second, .val (.long db), .second, .val (.int (1 : Int32)), .val (.int (0 : Int32)), .val (.ref b45), .val (.int (0 : Int32)), .val (.int s2), .val (.int s3), .val (.int (1 : Int32)), .val (.int (1 : Int32)), .val (.int (0 : Int32)), .val (.int (0 : Int32)), .val (.long da), .second, .val (.long db), .second] [(.int (0 : Int32)), (.int s2)]))
                have hc284 : s2 = (0 : Int32) := hs2
                refine Runs.by (fun _ hr => XS.icmpNo X65.here hx rfl (hb hby at_284) rfl (teq hc284).2 hr) ?_
                refine Runs.by (fun _ hr => XS.iload X65.here hx rfl (hb hby at_287) rfl  hr) ?_
                refine Runs.by (fun _ hr => XS.iload X65.here hx rfl (hb hby at_289) rfl  hr) ?_
                show Runs p e below _ (T65.setTop (mkF m 291 #[.val (.long q0), .second, .val (.long q1), .second, .val (.int p2), .val (.int p3), .val (.int p4), .val (.long da), .second, .val (.long db), .second, .val (.int (1 : Int32)), .val (.int (0 : Int32)), .val (.ref b45), .val (.int (0 : Int32)), .val (.int s2), .val (.int s3), .val (.int (1 : Int32)), .val (.int (1 : Int32)), .val (.int (0 : Int32)), .val (.int (0 : Int32)), .val (.long da), .second, .val (.long db), .second] [(.int (0 : Int32)), (.int s3)]))
                have hc291 : s3 = (0 : Int32) := (by have hm := (own_mc cda cdb).mp hc235; simp [hs3, zD1, zD2, nD1, nD2, hm])
                refine Runs.by (fun _ hr => XS.icmpNo X65.here hx rfl (hb hby at_291) rfl (teq hc291).2 hr) ?_
                refine Runs.by (fun _ hr => XS.iconst X65.here hx rfl (hb hby at_294) hr) ?_
                refine Runs.by (fun _ hr => XS.goto X65.here hx rfl (pc0 := 295) (pc' := 299) rfl (hb hby at_295) (by decide) (by decide) hr) ?_
                show Runs p e below _ (T65.setTop (mkF m 299 #[.val (.long q0), .second, .val (.long q1), .second, .val (.int p2), .val (.int p3), .val (.int p4), .val (.long da), .second, .val (.long db), .second, .val (.int (1 : Int32)), .val (.int (0 : Int32)), .val (.ref b45), .val (.int (0 : Int32)), .val (.int s2), .val (.int s3), .val (.int (1 : Int32)), .val (.int (1 : Int32)), .val (.int (0 : Int32)), .val (.int (0 : Int32)), .val (.long da), .second, .val (.long db), .second] [(.int (1 : Int32))]))
                refine Runs.ret X65 hx hrt hlk (Or.inl ⟨rfl, by simp, _, rfl⟩) (by rfl) (hb hby at_299) (by decide) (by decide) ?_
                exact ⟨rfl, N65⟩
              · -- pc 235: not (0 : Int32) < (lcmpW ((10 : Int64) * da) ((9 : Int64) * db))
                refine Runs.by (fun _ hr => XS.ifNo X65.here hx rfl (hb hby at_235) rfl ((if0 _ _).trans (flt hc235).2.2.1) hr) ?_
                refine Runs.by (fun _ hr => XS.iconst X65.here hx rfl (hb hby at_238) hr) ?_
                show Runs p e below _ (T65.setTop (mkF m 239 #[.val (.long q0), .second, .val (.long q1), .second, .val (.int p2), .val (.int p3), .val (.int p4), .val (.long da), .second, .val (.long db), .second, .val (.int (1 : Int32)), .val (.int (0 : Int32)), .val (.ref b45), .val (.int (0 : Int32)), .val (.int s2), .val (.int s3), .val (.int (1 : Int32)), .val (.int (1 : Int32)), .val (.int (0 : Int32)), .unset, .val (.long da), .second, .val (.long db), .second] [(.int (1 : Int32))]))
                refine Runs.by (fun _ hr => XS.goto X65.here hx rfl (pc0 := 239) (pc' := 243) rfl (hb hby at_239) (by decide) (by decide) hr) ?_
                refine Runs.by (fun _ hr => XS.istore X65.here hx rfl (hb hby at_243) rfl (l' := #[.val (.long q0), .second, .val (.long q1), .second, .val (.int p2), .val (.int p3), .val (.int p4), .val (.long da), .second, .val (.long db), .second, .val (.int (1 : Int32)), .val (.int (0 : Int32)), .val (.ref b45), .val (.int (0 : Int32)), .val (.int s2), .val (.int s3), .val (.int (1 : Int32)), .val (.int (1 : Int32)), .val (.int (0 : Int32)), .val (.int (1 : Int32)), .val (.long da), .second, .val (.long db), .second]) rfl hr) ?_
                refine Runs.by (fun _ hr => XS.goto X65.here hx rfl (pc0 := 245) (pc' := 275) rfl (hb hby at_245) (by decide) (by decide) hr) ?_
                show Runs p e below _ (T65.setTop (mkF m 275 #[.val (.long q0), .second, .val (.long q1), .second, .val (.int p2), .val (.int p3), .val (.int p4), .val (.long da), .second, .val (.long db), .second, .val (.int (1 : Int32)), .val (.int (0 : Int32)), .val (.ref b45), .val (.int (0 : Int32)), .val (.int s2), .val (.int s3), .val (.int (1 : Int32)), .val (.int (1 : Int32)), .val (.int (0 : Int32)), .val (.int (1 : Int32)), .val (.long da), .second, .val (.long db), .second] []))
                refine Runs.by (fun _ hr => XS.iload X65.here hx rfl (hb hby at_275) rfl  hr) ?_
                have hc277 : (0 : Int32) = (0 : Int32) := (by decide)
                refine Runs.by (fun _ hr => XS.ifNo X65.here hx rfl (hb hby at_277) rfl ((if0 _ _).trans (teq hc277).2) hr) ?_
                refine Runs.by (fun _ hr => XS.iload X65.here hx rfl (hb hby at_280) rfl  hr) ?_
                show Runs p e below _ (T65.setTop (mkF m 282 #[.val (.long q0), .second, .val (.long q1), .second, .val (.int p2), .val (.int p3), .val (.int p4), .val (.long da), .second, .val (.long db), .second, .val (.int (1 : Int32)), .val (.int (0 : Int32)), .val (.ref b45), .val (.int (0 : Int32)), .val (.int s2), .val (.int s3), .val (.int (1 : Int32)), .val (.int (1 : Int32)), .val (.int (0 : Int32)), .val (.int (1 : Int32)), .val (.long da), .second, .val (.long db), .second] [(.int s2)]))
                refine Runs.by (fun _ hr => XS.iload X65.here hx rfl (hb hby at_282) rfl  hr) ?_
                have hc284 : s2 = (0 : Int32) := hs2
                refine Runs.by (fun _ hr => XS.icmpNo X65.here hx rfl (hb hby at_284) rfl (teq hc284).2 hr) ?_
                refine Runs.by (fun _ hr => XS.iload X65.here hx rfl (hb hby at_287) rfl  hr) ?_
                show Runs p e below _ (T65.setTop (mkF m 289 #[.val (.long q0), .second, .val (.long q1), .second, .val (.int p2), .val (.int p3), .val (.int p4), .val (.long da), .second, .val (.long db), .second, .val (.int (1 : Int32)), .val (.int (0 : Int32)), .val (.ref b45), .val (.int (0 : Int32)), .val (.int s2), .val (.int s3), .val (.int (1 : Int32)), .val (.int (1 : Int32)), .val (.int (0 : Int32)), .val (.int (1 : Int32)), .val (.long da), .second, .val (.long db), .second] [(.int s3)]))
                refine Runs.by (fun _ hr => XS.iload X65.here hx rfl (hb hby at_289) rfl  hr) ?_
                have hc291 : s3 = (1 : Int32) := (by have hm := Classical.not_not.mp (fun z => hc235 ((own_mc cda cdb).mpr z)); simp [hs3, zD1, zD2, nD1, nD2, hm])
                refine Runs.by (fun _ hr => XS.icmpNo X65.here hx rfl (hb hby at_291) rfl (teq hc291).2 hr) ?_
                refine Runs.by (fun _ hr => XS.iconst X65.here hx rfl (hb hby at_294) hr) ?_
                show Runs p e below _ (T65.setTop (mkF m 295 #[.val (.long q0), .second, .val (.long q1), .second, .val (.int p2), .val (.int p3), .val (.int p4), .val (.long da), .second, .val (.long db), .second, .val (.int (1 : Int32)), .val (.int (0 : Int32)), .val (.ref b45), .val (.int (0 : Int32)), .val (.int s2), .val (.int s3), .val (.int (1 : Int32)), .val (.int (1 : Int32)), .val (.int (0 : Int32)), .val (.int (1 : Int32)), .val (.long da), .second, .val (.long db), .second] [(.int (1 : Int32))]))
                refine Runs.by (fun _ hr => XS.goto X65.here hx rfl (pc0 := 295) (pc' := 299) rfl (hb hby at_295) (by decide) (by decide) hr) ?_
                show Runs p e below _ (T65.setTop (mkF m 299 #[.val (.long q0), .second, .val (.long q1), .second, .val (.int p2), .val (.int p3), .val (.int p4), .val (.long da), .second, .val (.long db), .second, .val (.int (1 : Int32)), .val (.int (0 : Int32)), .val (.ref b45), .val (.int (0 : Int32)), .val (.int s2), .val (.int s3), .val (.int (1 : Int32)), .val (.int (1 : Int32)), .val (.int (0 : Int32)), .val (.int (1 : Int32)), .val (.long da), .second, .val (.long db), .second] [(.int (1 : Int32))]))
                refine Runs.ret X65 hx hrt hlk (Or.inl ⟨rfl, by simp, _, rfl⟩) (by rfl) (hb hby at_299) (by decide) (by decide) ?_
                exact ⟨rfl, N65⟩
    · -- pc 36: not (p4 &&& (2 : Int32)) = (0 : Int32)
      refine Runs.by (fun _ hr => XS.ifNo X0.here hx rfl (hb hby at_36) rfl ((if0 _ _).trans (feq hc36).1) hr) ?_
      refine Runs.by (fun _ hr => XS.iconst X0.here hx rfl (hb hby at_39) hr) ?_
      show Runs p e below _ (s₁.setTop (mkF m 40 #[.val (.long q0), .second, .val (.long q1), .second, .val (.int p2), .val (.int p3), .val (.int p4), .val (.long da), .second, .val (.long db), .second, .val (.int (1 : Int32)), .unset, .unset, .unset, .unset, .unset, .unset, .unset, .unset, .unset, .unset, .unset, .unset, .unset] [(.int (1 : Int32))]))
      refine Runs.by (fun _ hr => XS.goto X0.here hx rfl (pc0 := 40) (pc' := 44) rfl (hb hby at_40) (by decide) (by decide) hr) ?_
      refine Runs.by (fun _ hr => XS.istore X0.here hx rfl (hb hby at_44) rfl (l' := #[.val (.long q0), .second, .val (.long q1), .second, .val (.int p2), .val (.int p3), .val (.int p4), .val (.long da), .second, .val (.long db), .second, .val (.int (1 : Int32)), .val (.int (1 : Int32)), .unset, .unset, .unset, .unset, .unset, .unset, .unset, .unset, .unset, .unset, .unset, .unset]) rfl hr) ?_
      have cD1 : own_ct (own_D q0 da) := own_ctD cda
      have cD2 : own_ct (own_D q1 db) := own_ctD cdb
      show Runs p e below _ (s₁.setTop (mkF m 46 #[.val (.long q0), .second, .val (.long q1), .second, .val (.int p2), .val (.int p3), .val (.int p4), .val (.long da), .second, .val (.long db), .second, .val (.int (1 : Int32)), .val (.int (1 : Int32)), .unset, .unset, .unset, .unset, .unset, .unset, .unset, .unset, .unset, .unset, .unset, .unset] []))
      obtain ⟨T67, h67, X67, e67, E67, A67, D67, -, st67⟩ := newO X0 hx hZ hown (hw _ (List.mem_of_getElem? (i := 1) rfl)) (hw _ (List.mem_of_getElem? (i := 2) rfl)) (hw _ (List.mem_of_getElem? (i := 3) rfl)) e0 (g := (mkF m 46 #[.val (.long q0), .second, .val (.long q1), .second, .val (.int p2), .val (.int p3), .val (.int p4), .val (.long da), .second, .val (.long db), .second, .val (.int (1 : Int32)), .val (.int (1 : Int32)), .unset, .unset, .unset, .unset, .unset, .unset, .unset, .unset, .unset, .unset, .unset, .unset] [])) rfl (hb hby at_46) (by decide) (by decide)
      obtain ⟨b67, gz67⟩ : ∃ z, z = h0.size := ⟨_, rfl⟩
      rw [← gz67] at A67 D67 st67
      have g_b67 : n0 ≤ b67 := Nat.le_trans (Nat.le_trans Z0 K0.1) (Nat.le_of_eq gz67.symm)
      have sz_b67 : h0.size ≤ b67 := Nat.le_trans K0.1 (Nat.le_of_eq gz67.symm)
      have K68 : Keep h0 h67 [] := K0.ext E67
      have F_nanosPerStep_b67 : Fld Z h67 b67 "com/example/dialtone/dialtone/workload/Workers$Sharing" "nanosPerStep" "[D" .null := D67 (Or.inr (hw _ (List.mem_of_getElem? (i := 12) rfl))) (ty := (.array .double)) (by decide)
      have F_rounds_b67 : Fld Z h67 b67 "com/example/dialtone/dialtone/workload/Workers$Sharing" "rounds" "J" (.long (0 : Int64)) := D67 (Or.inl (hw _ (List.mem_of_getElem? (i := 19) rfl))) (ty := .long) (by decide)
      have F_otherWay_b67 : Fld Z h67 b67 "com/example/dialtone/dialtone/workload/Workers$Sharing" "otherWay" "Z" (.int (0 : Int32)) := D67 (Or.inl (hw _ (List.mem_of_getElem? (i := 21) rfl))) (ty := .boolean) (by decide)
      have F_started_b67 : Fld Z h67 b67 "com/example/dialtone/dialtone/workload/Workers$Sharing" "started" "J" (.long (0 : Int64)) := D67 (Or.inl (hw _ (List.mem_of_getElem? (i := 28) rfl))) (ty := .long) (by decide)
      have F_shared_b67 : Fld Z h67 b67 "com/example/dialtone/dialtone/workload/Workers$Sharing" "shared" "Z" (.int (0 : Int32)) := D67 (Or.inl (hw _ (List.mem_of_getElem? (i := 30) rfl))) (ty := .boolean) (by decide)
      have F_steps_b67 : Fld Z h67 b67 "com/example/dialtone/dialtone/workload/Workers$Sharing" "steps" "J" (.long (0 : Int64)) := D67 (Or.inl (hw _ (List.mem_of_getElem? (i := 32) rfl))) (ty := .long) (by decide)
      have F_sharedOverUnshared_b67 : Fld Z h67 b67 "com/example/dialtone/dialtone/workload/Workers$Sharing" "sharedOverUnshared" "D" (.double (0 : UInt64)) := D67 (Or.inl (hw _ (List.mem_of_getElem? (i := 47) rfl))) (ty := .double) (by decide)
      refine Runs.by st67 ?_
      refine Runs.by (fun _ hr => XS.dup X67.here hx rfl (hb hby at_49) rfl rfl hr) ?_
      show Runs p e below _ (T67.setTop (mkF m 50 #[.val (.long q0), .second, .val (.long q1), .second, .val (.int p2), .val (.int p3), .val (.int p4), .val (.long da), .second, .val (.long db), .second, .val (.int (1 : Int32)), .val (.int (1 : Int32)), .unset, .unset, .unset, .unset, .unset, .unset, .unset, .unset, .unset, .unset, .unset, .unset] [(.ref b67), (.ref b67)]))
      obtain ⟨_, _, ⟨T69, L69, k69, n69⟩, -, X69, ⟨Lc69, hQ69, l69, y69, z69⟩, st69⟩ := X67.specialBack hx (y := (⟨"com/example/dialtone/dialtone/workload/Workers$Sharing", "<init>", "()V"⟩ : MethodName)) rfl hown (mvT hZ (hw _ (List.mem_of_getElem? (i := 4) rfl))) (mvT hZ (hw _ (List.mem_of_getElem? (i := 5) rfl))) (mvT hZ (hw _ (List.mem_of_getElem? (i := 6) rfl))) (by decide) (backOf (W := 1) (rm1 l Z a0 hw [] b67  h67 n0 (Nat.le_trans Z0 K68.1) A67 g_b67 F_nanosPerStep_b67 F_rounds_b67 F_otherWay_b67 F_started_b67 F_shared_b67 F_steps_b67 F_sharedOverUnshared_b67) hZ (hw _ (List.mem_of_getElem? (i := 6) rfl)) (hw _ (List.mem_of_getElem? (i := 3) rfl)) (by decide) (by decide)) (g := (mkF m 50 #[.val (.long q0), .second, .val (.long q1), .second, .val (.int p2), .val (.int p3), .val (.int p4), .val (.long da), .second, .val (.long db), .second, .val (.int (1 : Int32)), .val (.int (1 : Int32)), .unset, .unset, .unset, .unset, .unset, .unset, .unset, .unset, .unset, .unset, .unset, .unset] [(.ref b67), (.ref b67)])) rfl (by rw [hml]; rfl) (Steps.refl _) (a := b67) (argsL := []) (rest := [(.ref b67)]) (lenOf pd_1 rfl) rfl (by show 2 * 0 + _ ≤ _; exact Nat.le_of_eq rfl) (hb hby at_50) (fun _ _ => ⟨rfl, e67, (by decide : 1 + 1 ≤ _), (by decide : 7 + 2 ≤ _)⟩)
      dsimp only [Pt.U, Pt.locs, Pt.cells, Pt.slots] at X69 l69 y69 z69 st69 hQ69
      subst l69 y69 z69
      obtain ⟨rfl, Nq69, Kq69, f69_0, t69, kt69, g_t69, szq_t69, neq_t69, f69_1, f69_2, f69_3, f69_4, f69_5, f69_6, f69_7, f69_8⟩ := hQ69
      have N69 := Fr.app N0 Nq69
      have ne_b67_t69 : b67 ≠ t69 := Nat.ne_of_lt (Nat.lt_of_lt_of_le A67.lt szq_t69)
      have sz_t69 : h0.size ≤ t69 := Nat.le_trans K68.1 szq_t69
      have K70 : Keep h0 T69.heap [] := Keep.trans (ws := []) K68 Kq69 (allS (Or.inr sz_b67) all0)
      refine Runs.by (fun _ hr => st69.trans hr) ?_
      refine Runs.by (fun _ hr => XS.astore X69.here hx rfl (hb hby at_53) rfl rfl (l' := #[.val (.long q0), .second, .val (.long q1), .second, .val (.int p2), .val (.int p3), .val (.int p4), .val (.long da), .second, .val (.long db), .second, .val (.int (1 : Int32)), .val (.int (1 : Int32)), .val (.ref b67), .unset, .unset, .unset, .unset, .unset, .unset, .unset, .unset, .unset, .unset, .unset]) rfl hr) ?_
      have VL0 : Arv Z T69.heap t69 kt69 .double (2 : Int32) [(.double (FP.l2d (0 : Int64))), (.double (FP.l2d (0 : Int64)))] (.double (0 : UInt64)) := by rw [own_l0z]; exact f69_8
      refine Runs.by (fun _ hr => XS.aload X69.here hx rfl (hb hby at_55) rfl rfl hr) ?_
      show Runs p e below _ (T69.setTop (mkF m 57 #[.val (.long q0), .second, .val (.long q1), .second, .val (.int p2), .val (.int p3), .val (.int p4), .val (.long da), .second, .val (.long db), .second, .val (.int (1 : Int32)), .val (.int (1 : Int32)), .val (.ref b67), .unset, .unset, .unset, .unset, .unset, .unset, .unset, .unset, .unset, .unset, .unset] [(.ref b67)]))
      obtain ⟨cq71, kq71, q71a, q71b, q71c⟩ := isOf hZ rfl f69_0
      obtain ⟨_, _, ⟨T71, L71, k71, n71⟩, -, X71, ⟨Lc71, hQ71, l71, y71, z71⟩, st71⟩ := X69.virtualBack hx (y := (⟨"com/example/dialtone/dialtone/workload/Workers$Sharing", "shares", "()Z"⟩ : MethodName)) (z := (⟨"com/example/dialtone/dialtone/workload/Workers$Sharing", "shares", "()Z"⟩ : MethodName)) hown (mvT hZ (hw _ (List.mem_of_getElem? (i := 13) rfl))) (mvT hZ (hw _ (List.mem_of_getElem? (i := 14) rfl))) (notFace_of_selects (args := #[]) (mvT hZ (hw _ (List.mem_of_getElem? (i := 16) rfl)))) (mvT hZ (hw _ (List.mem_of_getElem? (i := 16) rfl))) (mvT hZ (hw _ (List.mem_of_getElem? (i := 15) rfl))) (by decide) (backOf (W := 0) (rm3_0 l Z a0 hw [] b67 t69 kt69 (FP.l2d (0 : Int64)) (FP.l2d (0 : Int64)) (0 : UInt64) (0 : Int64) (0 : Int64) (0 : Int32) T69.heap n0 (Nat.le_trans Z0 K70.1) f69_0 g_b67 g_t69 (Ne.symm ne_b67_t69) f69_1 f69_2 f69_3 f69_4 f69_5 f69_6 f69_7 VL0 ) hZ (hw _ (List.mem_of_getElem? (i := 17) rfl)) (hw _ (List.mem_of_getElem? (i := 3) rfl)) (by decide) (by decide)) q71a q71c (g := (mkF m 57 #[.val (.long q0), .second, .val (.long q1), .second, .val (.int p2), .val (.int p3), .val (.int p4), .val (.long da), .second, .val (.long db), .second, .val (.int (1 : Int32)), .val (.int (1 : Int32)), .val (.ref b67), .unset, .unset, .unset, .unset, .unset, .unset, .unset, .unset, .unset, .unset, .unset] [(.ref b67)])) rfl (by rw [hml]; rfl) (Steps.refl _) (argsL := []) (rest := []) (lenOf pd_2 rfl) rfl (by show 2 * 0 + _ ≤ _; exact Nat.le_of_eq rfl) (hb hby at_57) (fun _ _ => ⟨rfl, rfl, (by decide : 2 + 0 ≤ _), (by decide : 9 + 0 ≤ _)⟩)
      dsimp only [Pt.U, Pt.locs, Pt.cells, Pt.slots] at X71 l71 y71 z71 st71 hQ71
      subst l71 y71 z71
      obtain ⟨rfl, Nq71, Kq71, f71_0, f71_1, f71_2, f71_3, f71_4, f71_5, f71_6, f71_7, f71_8⟩ := hQ71
      have N71 := Fr.app N69 Nq71
      have K72 : Keep h0 T71.heap [] := Keep.trans (ws := []) K70 Kq71 (allS (Or.inr sz_b67) all0)
      refine Runs.by (fun _ hr => st71.trans hr) ?_
      show Runs p e below _ (T71.setTop (mkF m 60 #[.val (.long q0), .second, .val (.long q1), .second, .val (.int p2), .val (.int p3), .val (.int p4), .val (.long da), .second, .val (.long db), .second, .val (.int (1 : Int32)), .val (.int (1 : Int32)), .val (.ref b67), .unset, .unset, .unset, .unset, .unset, .unset, .unset, .unset, .unset, .unset, .unset] [(.int (if (cmpValue (FP.dcmp (FP.l2d (0 : Int64)) FP.dconst0) .l) = (0 : Int32) then (0 : Int32) else if (cmpValue (FP.dcmp (FP.l2d (0 : Int64)) FP.dconst0) .l) = (0 : Int32) then (1 : Int32) else if (0 : Int32) < (cmpValue (FP.dcmp (0 : UInt64) (4606281698874543309 : UInt64)) .g) then (0 : Int32) else (1 : Int32)))]))
      rw [if_pos own_c00]
      refine Runs.by (fun _ hr => XS.istore X71.here hx rfl (hb hby at_60) rfl (l' := #[.val (.long q0), .second, .val (.long q1), .second, .val (.int p2), .val (.int p3), .val (.int p4), .val (.long da), .second, .val (.long db), .second, .val (.int (1 : Int32)), .val (.int (1 : Int32)), .val (.ref b67), .val (.int (0 : Int32)), .unset, .unset, .unset, .unset, .unset, .unset, .unset, .unset, .unset, .unset]) rfl hr) ?_
      refine Runs.by (fun _ hr => XS.aload X71.here hx rfl (hb hby at_62) rfl rfl hr) ?_
      show Runs p e below _ (T71.setTop (mkF m 64 #[.val (.long q0), .second, .val (.long q1), .second, .val (.int p2), .val (.int p3), .val (.int p4), .val (.long da), .second, .val (.long db), .second, .val (.int (1 : Int32)), .val (.int (1 : Int32)), .val (.ref b67), .val (.int (0 : Int32)), .unset, .unset, .unset, .unset, .unset, .unset, .unset, .unset, .unset, .unset] [(.ref b67)]))
      refine Runs.by (fun _ hr => XS.lloadN X71.here hx rfl (hb hby at_64) rfl  hr) ?_
      refine Runs.by (fun _ hr => XS.iload X71.here hx rfl (hb hby at_65) rfl  hr) ?_
      show Runs p e below _ (T71.setTop (mkF m 67 #[.val (.long q0), .second, .val (.long q1), .second, .val (.int p2), .val (.int p3), .val (.int p4), .val (.long da), .second, .val (.long db), .second, .val (.int (1 : Int32)), .val (.int (1 : Int32)), .val (.ref b67), .val (.int (0 : Int32)), .unset, .unset, .unset, .unset, .unset, .unset, .unset, .unset, .unset, .unset] [(.int (1 : Int32)), (.long q0), (.ref b67)]))
      obtain ⟨cq73, kq73, q73a, q73b, q73c⟩ := isOf hZ rfl f71_0
      obtain ⟨_, _, ⟨T73, L73, k73, n73⟩, -, X73, ⟨Lc73, hQ73, l73, y73, z73⟩, st73⟩ := X71.virtualBack hx (y := (⟨"com/example/dialtone/dialtone/workload/Workers$Sharing", "started", "(JZ)V"⟩ : MethodName)) (z := (⟨"com/example/dialtone/dialtone/workload/Workers$Sharing", "started", "(JZ)V"⟩ : MethodName)) hown (mvT hZ (hw _ (List.mem_of_getElem? (i := 22) rfl))) (mvT hZ (hw _ (List.mem_of_getElem? (i := 23) rfl))) (notFace_of_selects (args := #[]) (mvT hZ (hw _ (List.mem_of_getElem? (i := 25) rfl)))) (mvT hZ (hw _ (List.mem_of_getElem? (i := 25) rfl))) (mvT hZ (hw _ (List.mem_of_getElem? (i := 24) rfl))) (by decide) (backOf (W := 0) (rm4_1 l Z a0 hw [] b67 q0 t69 kt69 (FP.l2d (0 : Int64)) (FP.l2d (0 : Int64)) (0 : UInt64) (1 : Int64) (0 : Int64) (0 : Int64) (0 : Int32) T71.heap n0 (Nat.le_trans Z0 K72.1) f71_0 g_b67 g_t69 (Ne.symm ne_b67_t69) f71_1 f71_2 f71_3 f71_4 f71_5 f71_6 f71_7 f71_8 ) hZ (hw _ (List.mem_of_getElem? (i := 26) rfl)) (hw _ (List.mem_of_getElem? (i := 3) rfl)) (by decide) (by decide)) q73a q73c (g := (mkF m 67 #[.val (.long q0), .second, .val (.long q1), .second, .val (.int p2), .val (.int p3), .val (.int p4), .val (.long da), .second, .val (.long db), .second, .val (.int (1 : Int32)), .val (.int (1 : Int32)), .val (.ref b67), .val (.int (0 : Int32)), .unset, .unset, .unset, .unset, .unset, .unset, .unset, .unset, .unset, .unset] [(.int (1 : Int32)), (.long q0), (.ref b67)])) rfl (by rw [hml]; rfl) (Steps.refl _) (argsL := [(.long q0), (.int (1 : Int32))]) (rest := []) (lenOf pd_3 rfl) rfl (by show 2 * 0 + _ ≤ _; exact Nat.le_of_eq rfl) (hb hby at_67) (fun _ _ => ⟨rfl, rfl, (by decide : 2 + 0 ≤ _), (by decide : 9 + 0 ≤ _)⟩)
      dsimp only [Pt.U, Pt.locs, Pt.cells, Pt.slots] at X73 l73 y73 z73 st73 hQ73
      subst l73 y73 z73
      obtain ⟨rfl, Nq73, Kq73, f73_0, f73_1, f73_2, f73_3, f73_4, f73_5, f73_6, f73_7, f73_8⟩ := hQ73
      have N73 := Fr.app N71 Nq73
      have K74 : Keep h0 T73.heap [] := Keep.trans (ws := []) K72 Kq73 (allS (Or.inr sz_b67) all0)
      refine Runs.by (fun _ hr => st73.trans hr) ?_
      refine Runs.by (fun _ hr => XS.aload X73.here hx rfl (hb hby at_70) rfl rfl hr) ?_
      show Runs p e below _ (T73.setTop (mkF m 72 #[.val (.long q0), .second, .val (.long q1), .second, .val (.int p2), .val (.int p3), .val (.int p4), .val (.long da), .second, .val (.long db), .second, .val (.int (1 : Int32)), .val (.int (1 : Int32)), .val (.ref b67), .val (.int (0 : Int32)), .unset, .unset, .unset, .unset, .unset, .unset, .unset, .unset, .unset, .unset] [(.ref b67)]))
      obtain ⟨cq75, kq75, q75a, q75b, q75c⟩ := isOf hZ rfl f73_0
      obtain ⟨_, _, ⟨T75, L75, k75, n75⟩, -, X75, ⟨Lc75, hQ75, l75, y75, z75⟩, st75⟩ := X73.virtualBack hx (y := (⟨"com/example/dialtone/dialtone/workload/Workers$Sharing", "stepped", "()V"⟩ : MethodName)) (z := (⟨"com/example/dialtone/dialtone/workload/Workers$Sharing", "stepped", "()V"⟩ : MethodName)) hown (mvT hZ (hw _ (List.mem_of_getElem? (i := 33) rfl))) (mvT hZ (hw _ (List.mem_of_getElem? (i := 34) rfl))) (notFace_of_selects (args := #[]) (mvT hZ (hw _ (List.mem_of_getElem? (i := 36) rfl)))) (mvT hZ (hw _ (List.mem_of_getElem? (i := 36) rfl))) (mvT hZ (hw _ (List.mem_of_getElem? (i := 35) rfl))) (by decide) (backOf (W := 0) (rm5 l Z a0 hw [] b67 t69 kt69 (FP.l2d (0 : Int64)) (FP.l2d (0 : Int64)) (0 : UInt64) (1 : Int64) q0 (1 : Int32) T73.heap n0 (Nat.le_trans Z0 K74.1) f73_0 g_b67 g_t69 (Ne.symm ne_b67_t69) f73_1 f73_2 f73_3 f73_4 f73_5 f73_6 f73_7 f73_8 ) hZ (hw _ (List.mem_of_getElem? (i := 37) rfl)) (hw _ (List.mem_of_getElem? (i := 3) rfl)) (by decide) (by decide)) q75a q75c (g := (mkF m 72 #[.val (.long q0), .second, .val (.long q1), .second, .val (.int p2), .val (.int p3), .val (.int p4), .val (.long da), .second, .val (.long db), .second, .val (.int (1 : Int32)), .val (.int (1 : Int32)), .val (.ref b67), .val (.int (0 : Int32)), .unset, .unset, .unset, .unset, .unset, .unset, .unset, .unset, .unset, .unset] [(.ref b67)])) rfl (by rw [hml]; rfl) (Steps.refl _) (argsL := []) (rest := []) (lenOf pd_1 rfl) rfl (by show 2 * 0 + _ ≤ _; exact Nat.le_of_eq rfl) (hb hby at_72) (fun _ _ => ⟨rfl, rfl, (by decide : 2 + 0 ≤ _), (by decide : 9 + 0 ≤ _)⟩)
      dsimp only [Pt.U, Pt.locs, Pt.cells, Pt.slots] at X75 l75 y75 z75 st75 hQ75
      subst l75 y75 z75
      obtain ⟨rfl, Nq75, Kq75, f75_0, f75_1, f75_2, f75_3, f75_4, f75_5, f75_6, f75_7, f75_8⟩ := hQ75
      have N75 := Fr.app N73 Nq75
      have K76 : Keep h0 T75.heap [] := Keep.trans (ws := []) K74 Kq75 (allS (Or.inr sz_b67) all0)
      refine Runs.by (fun _ hr => st75.trans hr) ?_
      refine Runs.by (fun _ hr => XS.aload X75.here hx rfl (hb hby at_75) rfl rfl hr) ?_
      refine Runs.by (fun _ hr => XS.lloadN X75.here hx rfl (hb hby at_77) rfl  hr) ?_
      show Runs p e below _ (T75.setTop (mkF m 78 #[.val (.long q0), .second, .val (.long q1), .second, .val (.int p2), .val (.int p3), .val (.int p4), .val (.long da), .second, .val (.long db), .second, .val (.int (1 : Int32)), .val (.int (1 : Int32)), .val (.ref b67), .val (.int (0 : Int32)), .unset, .unset, .unset, .unset, .unset, .unset, .unset, .unset, .unset, .unset] [(.long q0), (.ref b67)]))
      refine Runs.by (fun _ hr => XS.lload X75.here hx rfl (hb hby at_78) rfl  hr) ?_
      refine Runs.by (fun _ hr => XS.ladd X75.here hx rfl (hb hby at_80) rfl hr) ?_
      show Runs p e below _ (T75.setTop (mkF m 81 #[.val (.long q0), .second, .val (.long q1), .second, .val (.int p2), .val (.int p3), .val (.int p4), .val (.long da), .second, .val (.long db), .second, .val (.int (1 : Int32)), .val (.int (1 : Int32)), .val (.ref b67), .val (.int (0 : Int32)), .unset, .unset, .unset, .unset, .unset, .unset, .unset, .unset, .unset, .unset] [(.long (q0 + da)), (.ref b67)]))
      obtain ⟨cq77, kq77, q77a, q77b, q77c⟩ := isOf hZ rfl f75_0
      obtain ⟨_, _, ⟨T77, L77, k77, n77⟩, -, X77, ⟨Lc77, hQ77, l77, y77, z77⟩, st77⟩ := X75.virtualBack hx (y := (⟨"com/example/dialtone/dialtone/workload/Workers$Sharing", "ended", "(J)V"⟩ : MethodName)) (z := (⟨"com/example/dialtone/dialtone/workload/Workers$Sharing", "ended", "(J)V"⟩ : MethodName)) hown (mvT hZ (hw _ (List.mem_of_getElem? (i := 38) rfl))) (mvT hZ (hw _ (List.mem_of_getElem? (i := 39) rfl))) (notFace_of_selects (args := #[]) (mvT hZ (hw _ (List.mem_of_getElem? (i := 41) rfl)))) (mvT hZ (hw _ (List.mem_of_getElem? (i := 41) rfl))) (mvT hZ (hw _ (List.mem_of_getElem? (i := 40) rfl))) (by decide) (backOf (W := 0) (rm6_1z l Z a0 hw [] b67 (q0 + da) t69 kt69 (1 : Int64) q0 da (0 : Int64) T75.heap n0 (Nat.le_trans Z0 K76.1) f75_0 g_b67 g_t69 (Ne.symm ne_b67_t69) f75_1 f75_2 f75_3 f75_4 f75_5 f75_6 f75_7 f75_8 (own_asub q0 da) cda own_ct0) hZ (hw _ (List.mem_of_getElem? (i := 42) rfl)) (hw _ (List.mem_of_getElem? (i := 3) rfl)) (by decide) (by decide)) q77a q77c (g := (mkF m 81 #[.val (.long q0), .second, .val (.long q1), .second, .val (.int p2), .val (.int p3), .val (.int p4), .val (.long da), .second, .val (.long db), .second, .val (.int (1 : Int32)), .val (.int (1 : Int32)), .val (.ref b67), .val (.int (0 : Int32)), .unset, .unset, .unset, .unset, .unset, .unset, .unset, .unset, .unset, .unset] [(.long (q0 + da)), (.ref b67)])) rfl (by rw [hml]; rfl) (Steps.refl _) (argsL := [(.long (q0 + da))]) (rest := []) (lenOf pd_4 rfl) rfl (by show 2 * 0 + _ ≤ _; exact Nat.le_of_eq rfl) (hb hby at_81) (fun _ _ => ⟨rfl, rfl, (by decide : 2 + 0 ≤ _), (by decide : 9 + 0 ≤ _)⟩)
      dsimp only [Pt.U, Pt.locs, Pt.cells, Pt.slots] at X77 l77 y77 z77 st77 hQ77
      subst l77 y77 z77
      obtain ⟨rfl, Nq77, Kq77, f77_0, f77_1, f77_2, f77_3, f77_4, f77_5, f77_6, f77_7, f77_8⟩ := hQ77
      have N77 := Fr.app N75 Nq77
      have K78 : Keep h0 T77.heap [] := Keep.trans (ws := []) K76 Kq77 (allS (Or.inr sz_b67) (allS (Or.inr sz_t69) all0))
      refine Runs.by (fun _ hr => st77.trans hr) ?_
      have FQ := f77_7
      rw [own_Q0] at FQ
      refine Runs.by (fun _ hr => XS.aload X77.here hx rfl (hb hby at_84) rfl rfl hr) ?_
      show Runs p e below _ (T77.setTop (mkF m 86 #[.val (.long q0), .second, .val (.long q1), .second, .val (.int p2), .val (.int p3), .val (.int p4), .val (.long da), .second, .val (.long db), .second, .val (.int (1 : Int32)), .val (.int (1 : Int32)), .val (.ref b67), .val (.int (0 : Int32)), .unset, .unset, .unset, .unset, .unset, .unset, .unset, .unset, .unset, .unset] [(.ref b67)]))
      obtain ⟨cq79, kq79, q79a, q79b, q79c⟩ := isOf hZ rfl f77_0
      obtain ⟨_, _, ⟨T79, L79, k79, n79⟩, -, X79, ⟨Lc79, hQ79, l79, y79, z79⟩, st79⟩ := X77.virtualBack hx (y := (⟨"com/example/dialtone/dialtone/workload/Workers$Sharing", "shares", "()Z"⟩ : MethodName)) (z := (⟨"com/example/dialtone/dialtone/workload/Workers$Sharing", "shares", "()Z"⟩ : MethodName)) hown (mvT hZ (hw _ (List.mem_of_getElem? (i := 13) rfl))) (mvT hZ (hw _ (List.mem_of_getElem? (i := 14) rfl))) (notFace_of_selects (args := #[]) (mvT hZ (hw _ (List.mem_of_getElem? (i := 16) rfl)))) (mvT hZ (hw _ (List.mem_of_getElem? (i := 16) rfl))) (mvT hZ (hw _ (List.mem_of_getElem? (i := 15) rfl))) (by decide) (backOf (W := 0) (rm3_1 l Z a0 hw [] b67 t69 kt69 (FP.l2d (0 : Int64)) (FP.l2d (own_D q0 da)) (0 : UInt64) (0 : Int64) (1 : Int64) (1 : Int32) T77.heap n0 (Nat.le_trans Z0 K78.1) f77_0 g_b67 g_t69 (Ne.symm ne_b67_t69) f77_1 f77_2 f77_3 f77_4 f77_5 f77_6 FQ f77_8 ) hZ (hw _ (List.mem_of_getElem? (i := 17) rfl)) (hw _ (List.mem_of_getElem? (i := 3) rfl)) (by decide) (by decide)) q79a q79c (g := (mkF m 86 #[.val (.long q0), .second, .val (.long q1), .second, .val (.int p2), .val (.int p3), .val (.int p4), .val (.long da), .second, .val (.long db), .second, .val (.int (1 : Int32)), .val (.int (1 : Int32)), .val (.ref b67), .val (.int (0 : Int32)), .unset, .unset, .unset, .unset, .unset, .unset, .unset, .unset, .unset, .unset] [(.ref b67)])) rfl (by rw [hml]; rfl) (Steps.refl _) (argsL := []) (rest := []) (lenOf pd_2 rfl) rfl (by show 2 * 0 + _ ≤ _; exact Nat.le_of_eq rfl) (hb hby at_86) (fun _ _ => ⟨rfl, rfl, (by decide : 2 + 0 ≤ _), (by decide : 9 + 0 ≤ _)⟩)
      dsimp only [Pt.U, Pt.locs, Pt.cells, Pt.slots] at X79 l79 y79 z79 st79 hQ79
      subst l79 y79 z79
      obtain ⟨rfl, Nq79, Kq79, f79_0, f79_1, f79_2, f79_3, f79_4, f79_5, f79_6, f79_7, f79_8⟩ := hQ79
      have N79 := Fr.app N77 Nq79
      have K80 : Keep h0 T79.heap [] := Keep.trans (ws := []) K78 Kq79 (allS (Or.inr sz_b67) all0)
      refine Runs.by (fun _ hr => st79.trans hr) ?_
      obtain ⟨s2, es2⟩ : ∃ z : Int32, z = (if (cmpValue (FP.dcmp (FP.l2d (0 : Int64)) FP.dconst0) .l) = (0 : Int32) then (0 : Int32) else if (cmpValue (FP.dcmp (FP.l2d (own_D q0 da)) FP.dconst0) .l) = (0 : Int32) then (1 : Int32) else if (0 : Int32) < (cmpValue (FP.dcmp (0 : UInt64) (4606281698874543309 : UInt64)) .g) then (0 : Int32) else (1 : Int32)) := ⟨_, rfl⟩
      show Runs p e below _ (T79.setTop (mkF m 89 #[.val (.long q0), .second, .val (.long q1), .second, .val (.int p2), .val (.int p3), .val (.int p4), .val (.long da), .second, .val (.long db), .second, .val (.int (1 : Int32)), .val (.int (1 : Int32)), .val (.ref b67), .val (.int (0 : Int32)), .unset, .unset, .unset, .unset, .unset, .unset, .unset, .unset, .unset, .unset] [(.int (if (cmpValue (FP.dcmp (FP.l2d (0 : Int64)) FP.dconst0) .l) = (0 : Int32) then (0 : Int32) else if (cmpValue (FP.dcmp (FP.l2d (own_D q0 da)) FP.dconst0) .l) = (0 : Int32) then (1 : Int32) else if (0 : Int32) < (cmpValue (FP.dcmp (0 : UInt64) (4606281698874543309 : UInt64)) .g) then (0 : Int32) else (1 : Int32)))]))
      rw [← es2]
      have hs2 : s2 = (0 : Int32) := es2.trans (own_s2_1 _ _)
      refine Runs.by (fun _ hr => XS.istore X79.here hx rfl (hb hby at_89) rfl (l' := #[.val (.long q0), .second, .val (.long q1), .second, .val (.int p2), .val (.int p3), .val (.int p4), .val (.long da), .second, .val (.long db), .second, .val (.int (1 : Int32)), .val (.int (1 : Int32)), .val (.ref b67), .val (.int (0 : Int32)), .val (.int s2), .unset, .unset, .unset, .unset, .unset, .unset, .unset, .unset, .unset]) rfl hr) ?_
      refine Runs.by (fun _ hr => XS.aload X79.here hx rfl (hb hby at_91) rfl rfl hr) ?_
      show Runs p e below _ (T79.setTop (mkF m 93 #[.val (.long q0), .second, .val (.long q1), .second, .val (.int p2), .val (.int p3), .val (.int p4), .val (.long da), .second, .val (.long db), .second, .val (.int (1 : Int32)), .val (.int (1 : Int32)), .val (.ref b67), .val (.int (0 : Int32)), .val (.int s2), .unset, .unset, .unset, .unset, .unset, .unset, .unset, .unset, .unset] [(.ref b67)]))
      refine Runs.by (fun _ hr => XS.lloadN X79.here hx rfl (hb hby at_93) rfl  hr) ?_
      refine Runs.by (fun _ hr => XS.iload X79.here hx rfl (hb hby at_94) rfl  hr) ?_
      show Runs p e below _ (T79.setTop (mkF m 96 #[.val (.long q0), .second, .val (.long q1), .second, .val (.int p2), .val (.int p3), .val (.int p4), .val (.long da), .second, .val (.long db), .second, .val (.int (1 : Int32)), .val (.int (1 : Int32)), .val (.ref b67), .val (.int (0 : Int32)), .val (.int s2), .unset, .unset, .unset, .unset, .unset, .unset, .unset, .unset, .unset] [(.int (1 : Int32)), (.long q1), (.ref b67)]))
      obtain ⟨cq81, kq81, q81a, q81b, q81c⟩ := isOf hZ rfl f79_0
      obtain ⟨_, _, ⟨T81, L81, k81, n81⟩, -, X81, ⟨Lc81, hQ81, l81, y81, z81⟩, st81⟩ := X79.virtualBack hx (y := (⟨"com/example/dialtone/dialtone/workload/Workers$Sharing", "started", "(JZ)V"⟩ : MethodName)) (z := (⟨"com/example/dialtone/dialtone/workload/Workers$Sharing", "started", "(JZ)V"⟩ : MethodName)) hown (mvT hZ (hw _ (List.mem_of_getElem? (i := 22) rfl))) (mvT hZ (hw _ (List.mem_of_getElem? (i := 23) rfl))) (notFace_of_selects (args := #[]) (mvT hZ (hw _ (List.mem_of_getElem? (i := 25) rfl)))) (mvT hZ (hw _ (List.mem_of_getElem? (i := 25) rfl))) (mvT hZ (hw _ (List.mem_of_getElem? (i := 24) rfl))) (by decide) (backOf (W := 0) (rm4_1 l Z a0 hw [] b67 q1 t69 kt69 (FP.l2d (0 : Int64)) (FP.l2d (own_D q0 da)) (0 : UInt64) (2 : Int64) (0 : Int64) (1 : Int64) (1 : Int32) T79.heap n0 (Nat.le_trans Z0 K80.1) f79_0 g_b67 g_t69 (Ne.symm ne_b67_t69) f79_1 f79_2 f79_3 f79_4 f79_5 f79_6 f79_7 f79_8 ) hZ (hw _ (List.mem_of_getElem? (i := 26) rfl)) (hw _ (List.mem_of_getElem? (i := 3) rfl)) (by decide) (by decide)) q81a q81c (g := (mkF m 96 #[.val (.long q0), .second, .val (.long q1), .second, .val (.int p2), .val (.int p3), .val (.int p4), .val (.long da), .second, .val (.long db), .second, .val (.int (1 : Int32)), .val (.int (1 : Int32)), .val (.ref b67), .val (.int (0 : Int32)), .val (.int s2), .unset, .unset, .unset, .unset, .unset, .unset, .unset, .unset, .unset] [(.int (1 : Int32)), (.long q1), (.ref b67)])) rfl (by rw [hml]; rfl) (Steps.refl _) (argsL := [(.long q1), (.int (1 : Int32))]) (rest := []) (lenOf pd_3 rfl) rfl (by show 2 * 0 + _ ≤ _; exact Nat.le_of_eq rfl) (hb hby at_96) (fun _ _ => ⟨rfl, rfl, (by decide : 2 + 0 ≤ _), (by decide : 9 + 0 ≤ _)⟩)
      dsimp only [Pt.U, Pt.locs, Pt.cells, Pt.slots] at X81 l81 y81 z81 st81 hQ81
      subst l81 y81 z81
      obtain ⟨rfl, Nq81, Kq81, f81_0, f81_1, f81_2, f81_3, f81_4, f81_5, f81_6, f81_7, f81_8⟩ := hQ81
      have N81 := Fr.app N79 Nq81
      have K82 : Keep h0 T81.heap [] := Keep.trans (ws := []) K80 Kq81 (allS (Or.inr sz_b67) all0)
      refine Runs.by (fun _ hr => st81.trans hr) ?_
      refine Runs.by (fun _ hr => XS.aload X81.here hx rfl (hb hby at_99) rfl rfl hr) ?_
      show Runs p e below _ (T81.setTop (mkF m 101 #[.val (.long q0), .second, .val (.long q1), .second, .val (.int p2), .val (.int p3), .val (.int p4), .val (.long da), .second, .val (.long db), .second, .val (.int (1 : Int32)), .val (.int (1 : Int32)), .val (.ref b67), .val (.int (0 : Int32)), .val (.int s2), .unset, .unset, .unset, .unset, .unset, .unset, .unset, .unset, .unset] [(.ref b67)]))
      obtain ⟨cq83, kq83, q83a, q83b, q83c⟩ := isOf hZ rfl f81_0
      obtain ⟨_, _, ⟨T83, L83, k83, n83⟩, -, X83, ⟨Lc83, hQ83, l83, y83, z83⟩, st83⟩ := X81.virtualBack hx (y := (⟨"com/example/dialtone/dialtone/workload/Workers$Sharing", "stepped", "()V"⟩ : MethodName)) (z := (⟨"com/example/dialtone/dialtone/workload/Workers$Sharing", "stepped", "()V"⟩ : MethodName)) hown (mvT hZ (hw _ (List.mem_of_getElem? (i := 33) rfl))) (mvT hZ (hw _ (List.mem_of_getElem? (i := 34) rfl))) (notFace_of_selects (args := #[]) (mvT hZ (hw _ (List.mem_of_getElem? (i := 36) rfl)))) (mvT hZ (hw _ (List.mem_of_getElem? (i := 36) rfl))) (mvT hZ (hw _ (List.mem_of_getElem? (i := 35) rfl))) (by decide) (backOf (W := 0) (rm5 l Z a0 hw [] b67 t69 kt69 (FP.l2d (0 : Int64)) (FP.l2d (own_D q0 da)) (0 : UInt64) (2 : Int64) q1 (1 : Int32) T81.heap n0 (Nat.le_trans Z0 K82.1) f81_0 g_b67 g_t69 (Ne.symm ne_b67_t69) f81_1 f81_2 f81_3 f81_4 f81_5 f81_6 f81_7 f81_8 ) hZ (hw _ (List.mem_of_getElem? (i := 37) rfl)) (hw _ (List.mem_of_getElem? (i := 3) rfl)) (by decide) (by decide)) q83a q83c (g := (mkF m 101 #[.val (.long q0), .second, .val (.long q1), .second, .val (.int p2), .val (.int p3), .val (.int p4), .val (.long da), .second, .val (.long db), .second, .val (.int (1 : Int32)), .val (.int (1 : Int32)), .val (.ref b67), .val (.int (0 : Int32)), .val (.int s2), .unset, .unset, .unset, .unset, .unset, .unset, .unset, .unset, .unset] [(.ref b67)])) rfl (by rw [hml]; rfl) (Steps.refl _) (argsL := []) (rest := []) (lenOf pd_1 rfl) rfl (by show 2 * 0 + _ ≤ _; exact Nat.le_of_eq rfl) (hb hby at_101) (fun _ _ => ⟨rfl, rfl, (by decide : 2 + 0 ≤ _), (by decide : 9 + 0 ≤ _)⟩)
      dsimp only [Pt.U, Pt.locs, Pt.cells, Pt.slots] at X83 l83 y83 z83 st83 hQ83
      subst l83 y83 z83
      obtain ⟨rfl, Nq83, Kq83, f83_0, f83_1, f83_2, f83_3, f83_4, f83_5, f83_6, f83_7, f83_8⟩ := hQ83
      have N83 := Fr.app N81 Nq83
      have K84 : Keep h0 T83.heap [] := Keep.trans (ws := []) K82 Kq83 (allS (Or.inr sz_b67) all0)
      refine Runs.by (fun _ hr => st83.trans hr) ?_
      refine Runs.by (fun _ hr => XS.aload X83.here hx rfl (hb hby at_104) rfl rfl hr) ?_
      refine Runs.by (fun _ hr => XS.lloadN X83.here hx rfl (hb hby at_106) rfl  hr) ?_
      show Runs p e below _ (T83.setTop (mkF m 107 #[.val (.long q0), .second, .val (.long q1), .second, .val (.int p2), .val (.int p3), .val (.int p4), .val (.long da), .second, .val (.long db), .second, .val (.int (1 : Int32)), .val (.int (1 : Int32)), .val (.ref b67), .val (.int (0 : Int32)), .val (.int s2), .unset, .unset, .unset, .unset, .unset, .unset, .unset, .unset, .unset] [(.long q1), (.ref b67)]))
      refine Runs.by (fun _ hr => XS.lload X83.here hx rfl (hb hby at_107) rfl  hr) ?_
      refine Runs.by (fun _ hr => XS.ladd X83.here hx rfl (hb hby at_109) rfl hr) ?_
      show Runs p e below _ (T83.setTop (mkF m 110 #[.val (.long q0), .second, .val (.long q1), .second, .val (.int p2), .val (.int p3), .val (.int p4), .val (.long da), .second, .val (.long db), .second, .val (.int (1 : Int32)), .val (.int (1 : Int32)), .val (.ref b67), .val (.int (0 : Int32)), .val (.int s2), .unset, .unset, .unset, .unset, .unset, .unset, .unset, .unset, .unset] [(.long (q1 + db)), (.ref b67)]))
      obtain ⟨cq85, kq85, q85a, q85b, q85c⟩ := isOf hZ rfl f83_0
      obtain ⟨_, _, ⟨T85, L85, k85, n85⟩, -, X85, ⟨Lc85, hQ85, l85, y85, z85⟩, st85⟩ := X83.virtualBack hx (y := (⟨"com/example/dialtone/dialtone/workload/Workers$Sharing", "ended", "(J)V"⟩ : MethodName)) (z := (⟨"com/example/dialtone/dialtone/workload/Workers$Sharing", "ended", "(J)V"⟩ : MethodName)) hown (mvT hZ (hw _ (List.mem_of_getElem? (i := 38) rfl))) (mvT hZ (hw _ (List.mem_of_getElem? (i := 39) rfl))) (notFace_of_selects (args := #[]) (mvT hZ (hw _ (List.mem_of_getElem? (i := 41) rfl)))) (mvT hZ (hw _ (List.mem_of_getElem? (i := 41) rfl))) (mvT hZ (hw _ (List.mem_of_getElem? (i := 40) rfl))) (by decide) (backOf (W := 0) (rm6_1a l Z a0 hw [] b67 (q1 + db) t69 kt69 (2 : Int64) q1 db (own_D q0 da) T83.heap n0 (Nat.le_trans Z0 K84.1) f83_0 g_b67 g_t69 (Ne.symm ne_b67_t69) f83_1 f83_2 f83_3 f83_4 f83_5 f83_6 f83_7 f83_8 (own_asub q1 db) cdb cD1) hZ (hw _ (List.mem_of_getElem? (i := 42) rfl)) (hw _ (List.mem_of_getElem? (i := 3) rfl)) (by decide) (by decide)) q85a q85c (g := (mkF m 110 #[.val (.long q0), .second, .val (.long q1), .second, .val (.int p2), .val (.int p3), .val (.int p4), .val (.long da), .second, .val (.long db), .second, .val (.int (1 : Int32)), .val (.int (1 : Int32)), .val (.ref b67), .val (.int (0 : Int32)), .val (.int s2), .unset, .unset, .unset, .unset, .unset, .unset, .unset, .unset, .unset] [(.long (q1 + db)), (.ref b67)])) rfl (by rw [hml]; rfl) (Steps.refl _) (argsL := [(.long (q1 + db))]) (rest := []) (lenOf pd_4 rfl) rfl (by show 2 * 0 + _ ≤ _; exact Nat.le_of_eq rfl) (hb hby at_110) (fun _ _ => ⟨rfl, rfl, (by decide : 2 + 0 ≤ _), (by decide : 9 + 0 ≤ _)⟩)
      dsimp only [Pt.U, Pt.locs, Pt.cells, Pt.slots] at X85 l85 y85 z85 st85 hQ85
      subst l85 y85 z85
      obtain ⟨rfl, Nq85, Kq85, f85_0, f85_1, f85_2, f85_3, f85_4, f85_5, f85_6, f85_7, f85_8⟩ := hQ85
      have N85 := Fr.app N83 Nq85
      have K86 : Keep h0 T85.heap [] := Keep.trans (ws := []) K84 Kq85 (allS (Or.inr sz_b67) (allS (Or.inr sz_t69) all0))
      refine Runs.by (fun _ hr => st85.trans hr) ?_
      refine Runs.by (fun _ hr => XS.aload X85.here hx rfl (hb hby at_113) rfl rfl hr) ?_
      show Runs p e below _ (T85.setTop (mkF m 115 #[.val (.long q0), .second, .val (.long q1), .second, .val (.int p2), .val (.int p3), .val (.int p4), .val (.long da), .second, .val (.long db), .second, .val (.int (1 : Int32)), .val (.int (1 : Int32)), .val (.ref b67), .val (.int (0 : Int32)), .val (.int s2), .unset, .unset, .unset, .unset, .unset, .unset, .unset, .unset, .unset] [(.ref b67)]))
      obtain ⟨cq87, kq87, q87a, q87b, q87c⟩ := isOf hZ rfl f85_0
      obtain ⟨_, _, ⟨T87, L87, k87, n87⟩, -, X87, ⟨Lc87, hQ87, l87, y87, z87⟩, st87⟩ := X85.virtualBack hx (y := (⟨"com/example/dialtone/dialtone/workload/Workers$Sharing", "shares", "()Z"⟩ : MethodName)) (z := (⟨"com/example/dialtone/dialtone/workload/Workers$Sharing", "shares", "()Z"⟩ : MethodName)) hown (mvT hZ (hw _ (List.mem_of_getElem? (i := 13) rfl))) (mvT hZ (hw _ (List.mem_of_getElem? (i := 14) rfl))) (notFace_of_selects (args := #[]) (mvT hZ (hw _ (List.mem_of_getElem? (i := 16) rfl)))) (mvT hZ (hw _ (List.mem_of_getElem? (i := 16) rfl))) (mvT hZ (hw _ (List.mem_of_getElem? (i := 15) rfl))) (by decide) (backOf (W := 0) (rm3_2 l Z a0 hw [] b67 t69 kt69 (FP.l2d (0 : Int64)) (own_X q1 (own_D q0 da) (FP.l2d db) (FP.dadd (FP.l2d (own_D q0 da)) (FP.dmul (4593671619917905920 : UInt64) (FP.dsub (FP.l2d db) (FP.l2d (own_D q0 da)))))) (0 : UInt64) (0 : Int64) (1 : Int64) (1 : Int32) T85.heap n0 (Nat.le_trans Z0 K86.1) f85_0 g_b67 g_t69 (Ne.symm ne_b67_t69) f85_1 f85_2 f85_3 f85_4 f85_5 f85_6 f85_7 f85_8 ) hZ (hw _ (List.mem_of_getElem? (i := 17) rfl)) (hw _ (List.mem_of_getElem? (i := 3) rfl)) (by decide) (by decide)) q87a q87c (g := (mkF m 115 #[.val (.long q0), .second, .val (.long q1), .second, .val (.int p2), .val (.int p3), .val (.int p4), .val (.long da), .second, .val (.long db), .second, .val (.int (1 : Int32)), .val (.int (1 : Int32)), .val (.ref b67), .val (.int (0 : Int32)), .val (.int s2), .unset, .unset, .unset, .unset, .unset, .unset, .unset, .unset, .unset] [(.ref b67)])) rfl (by rw [hml]; rfl) (Steps.refl _) (argsL := []) (rest := []) (lenOf pd_2 rfl) rfl (by show 2 * 0 + _ ≤ _; exact Nat.le_of_eq rfl) (hb hby at_115) (fun _ _ => ⟨rfl, rfl, (by decide : 2 + 0 ≤ _), (by decide : 9 + 0 ≤ _)⟩)
      dsimp only [Pt.U, Pt.locs, Pt.cells, Pt.slots] at X87 l87 y87 z87 st87 hQ87
      subst l87 y87 z87
      obtain ⟨rfl, Nq87, Kq87, f87_0, f87_1, f87_2, f87_3, f87_4, f87_5, f87_6, f87_7, f87_8⟩ := hQ87
      have N87 := Fr.app N85 Nq87
      have K88 : Keep h0 T87.heap [] := Keep.trans (ws := []) K86 Kq87 (allS (Or.inr sz_b67) all0)
      refine Runs.by (fun _ hr => st87.trans hr) ?_
      obtain ⟨s3, es3⟩ : ∃ z : Int32, z = (if (cmpValue (FP.dcmp (FP.l2d (0 : Int64)) FP.dconst0) .l) = (0 : Int32) then (0 : Int32) else if (cmpValue (FP.dcmp (own_X q1 (own_D q0 da) (FP.l2d db) (FP.dadd (FP.l2d (own_D q0 da)) (FP.dmul (4593671619917905920 : UInt64) (FP.dsub (FP.l2d db) (FP.l2d (own_D q0 da)))))) FP.dconst0) .l) = (0 : Int32) then (1 : Int32) else if (0 : Int32) < (cmpValue (FP.dcmp (0 : UInt64) (4606281698874543309 : UInt64)) .g) then (0 : Int32) else (1 : Int32)) := ⟨_, rfl⟩
      show Runs p e below _ (T87.setTop (mkF m 118 #[.val (.long q0), .second, .val (.long q1), .second, .val (.int p2), .val (.int p3), .val (.int p4), .val (.long da), .second, .val (.long db), .second, .val (.int (1 : Int32)), .val (.int (1 : Int32)), .val (.ref b67), .val (.int (0 : Int32)), .val (.int s2), .unset, .unset, .unset, .unset, .unset, .unset, .unset, .unset, .unset] [(.int (if (cmpValue (FP.dcmp (FP.l2d (0 : Int64)) FP.dconst0) .l) = (0 : Int32) then (0 : Int32) else if (cmpValue (FP.dcmp (own_X q1 (own_D q0 da) (FP.l2d db) (FP.dadd (FP.l2d (own_D q0 da)) (FP.dmul (4593671619917905920 : UInt64) (FP.dsub (FP.l2d db) (FP.l2d (own_D q0 da)))))) FP.dconst0) .l) = (0 : Int32) then (1 : Int32) else if (0 : Int32) < (cmpValue (FP.dcmp (0 : UInt64) (4606281698874543309 : UInt64)) .g) then (0 : Int32) else (1 : Int32)))]))
      rw [← es3]
      have hs3 : s3 = (0 : Int32) := es3.trans (own_s2_1 _ _)
      refine Runs.by (fun _ hr => XS.istore X87.here hx rfl (hb hby at_118) rfl (l' := #[.val (.long q0), .second, .val (.long q1), .second, .val (.int p2), .val (.int p3), .val (.int p4), .val (.long da), .second, .val (.long db), .second, .val (.int (1 : Int32)), .val (.int (1 : Int32)), .val (.ref b67), .val (.int (0 : Int32)), .val (.int s2), .val (.int s3), .unset, .unset, .unset, .unset, .unset, .unset, .unset, .unset]) rfl hr) ?_
      refine Runs.by (fun _ hr => XS.lloadN X87.here hx rfl (hb hby at_120) rfl  hr) ?_
      show Runs p e below _ (T87.setTop (mkF m 121 #[.val (.long q0), .second, .val (.long q1), .second, .val (.int p2), .val (.int p3), .val (.int p4), .val (.long da), .second, .val (.long db), .second, .val (.int (1 : Int32)), .val (.int (1 : Int32)), .val (.ref b67), .val (.int (0 : Int32)), .val (.int s2), .val (.int s3), .unset, .unset, .unset, .unset, .unset, .unset, .unset, .unset] [(.long q0)]))
      refine Runs.by (fun _ hr => XS.lconst X87.here hx rfl (hb hby at_121) hr) ?_
      refine Runs.by (fun _ hr => XS.lcmp X87.here hx rfl (hb hby at_122) rfl hr) ?_
      by_cases hc123 : (lcmpW q0 (0 : Int64)) = (0 : Int32)
      · -- pc 123: (lcmpW q0 (0 : Int64)) = (0 : Int32)
        refine Runs.by (fun _ hr => XS.ifYes X87.here hx rfl (pc0 := 123) (pc' := 137) rfl (hb hby at_123) rfl ((if0 _ _).trans (teq hc123).1) (by decide) (by decide) hr) ?_
        show Runs p e below _ (T87.setTop (mkF m 137 #[.val (.long q0), .second, .val (.long q1), .second, .val (.int p2), .val (.int p3), .val (.int p4), .val (.long da), .second, .val (.long db), .second, .val (.int (1 : Int32)), .val (.int (1 : Int32)), .val (.ref b67), .val (.int (0 : Int32)), .val (.int s2), .val (.int s3), .unset, .unset, .unset, .unset, .unset, .unset, .unset, .unset] []))
        refine Runs.by (fun _ hr => XS.iconst X87.here hx rfl (hb hby at_137) hr) ?_
        refine Runs.by (fun _ hr => XS.istore X87.here hx rfl (hb hby at_138) rfl (l' := #[.val (.long q0), .second, .val (.long q1), .second, .val (.int p2), .val (.int p3), .val (.int p4), .val (.long da), .second, .val (.long db), .second, .val (.int (1 : Int32)), .val (.int (1 : Int32)), .val (.ref b67), .val (.int (0 : Int32)), .val (.int s2), .val (.int s3), .val (.int (0 : Int32)), .unset, .unset, .unset, .unset, .unset, .unset, .unset]) rfl hr) ?_
        have zD1 : own_D q0 da = 0 := own_Dz1 (own_lcz.mp hc123)
        refine Runs.by (fun _ hr => XS.lloadN X87.here hx rfl (hb hby at_140) rfl  hr) ?_
        show Runs p e below _ (T87.setTop (mkF m 141 #[.val (.long q0), .second, .val (.long q1), .second, .val (.int p2), .val (.int p3), .val (.int p4), .val (.long da), .second, .val (.long db), .second, .val (.int (1 : Int32)), .val (.int (1 : Int32)), .val (.ref b67), .val (.int (0 : Int32)), .val (.int s2), .val (.int s3), .val (.int (0 : Int32)), .unset, .unset, .unset, .unset, .unset, .unset, .unset] [(.long q1)]))
        refine Runs.by (fun _ hr => XS.lconst X87.here hx rfl (hb hby at_141) hr) ?_
        refine Runs.by (fun _ hr => XS.lcmp X87.here hx rfl (hb hby at_142) rfl hr) ?_
        by_cases hc143 : (lcmpW q1 (0 : Int64)) = (0 : Int32)
        · -- pc 143: (lcmpW q1 (0 : Int64)) = (0 : Int32)
          refine Runs.by (fun _ hr => XS.ifYes X87.here hx rfl (pc0 := 143) (pc' := 157) rfl (hb hby at_143) rfl ((if0 _ _).trans (teq hc143).1) (by decide) (by decide) hr) ?_
          show Runs p e below _ (T87.setTop (mkF m 157 #[.val (.long q0), .second, .val (.long q1), .second, .val (.int p2), .val (.int p3), .val (.int p4), .val (.long da), .second, .val (.long db), .second, .val (.int (1 : Int32)), .val (.int (1 : Int32)), .val (.ref b67), .val (.int (0 : Int32)), .val (.int s2), .val (.int s3), .val (.int (0 : Int32)), .unset, .unset, .unset, .unset, .unset, .unset, .unset] []))
          refine Runs.by (fun _ hr => XS.iconst X87.here hx rfl (hb hby at_157) hr) ?_
          refine Runs.by (fun _ hr => XS.istore X87.here hx rfl (hb hby at_158) rfl (l' := #[.val (.long q0), .second, .val (.long q1), .second, .val (.int p2), .val (.int p3), .val (.int p4), .val (.long da), .second, .val (.long db), .second, .val (.int (1 : Int32)), .val (.int (1 : Int32)), .val (.ref b67), .val (.int (0 : Int32)), .val (.int s2), .val (.int s3), .val (.int (0 : Int32)), .val (.int (0 : Int32)), .unset, .unset, .unset, .unset, .unset, .unset]) rfl hr) ?_
          have zD2 : own_D q1 db = 0 := own_Dz1 (own_lcz.mp hc143)
          refine Runs.by (fun _ hr => XS.iload X87.here hx rfl (hb hby at_160) rfl  hr) ?_
          show Runs p e below _ (T87.setTop (mkF m 162 #[.val (.long q0), .second, .val (.long q1), .second, .val (.int p2), .val (.int p3), .val (.int p4), .val (.long da), .second, .val (.long db), .second, .val (.int (1 : Int32)), .val (.int (1 : Int32)), .val (.ref b67), .val (.int (0 : Int32)), .val (.int s2), .val (.int s3), .val (.int (0 : Int32)), .val (.int (0 : Int32)), .unset, .unset, .unset, .unset, .unset, .unset] [(.int (0 : Int32))]))
          have hc162 : (0 : Int32) = (0 : Int32) := (by decide)
          refine Runs.by (fun _ hr => XS.ifYes X87.here hx rfl (pc0 := 162) (pc' := 174) rfl (hb hby at_162) rfl ((if0 _ _).trans (teq hc162).1) (by decide) (by decide) hr) ?_
          refine Runs.by (fun _ hr => XS.iconst X87.here hx rfl (hb hby at_174) hr) ?_
          refine Runs.by (fun _ hr => XS.istore X87.here hx rfl (hb hby at_175) rfl (l' := #[.val (.long q0), .second, .val (.long q1), .second, .val (.int p2), .val (.int p3), .val (.int p4), .val (.long da), .second, .val (.long db), .second, .val (.int (1 : Int32)), .val (.int (1 : Int32)), .val (.ref b67), .val (.int (0 : Int32)), .val (.int s2), .val (.int s3), .val (.int (0 : Int32)), .val (.int (0 : Int32)), .val (.int (0 : Int32)), .unset, .unset, .unset, .unset, .unset]) rfl hr) ?_
          show Runs p e below _ (T87.setTop (mkF m 177 #[.val (.long q0), .second, .val (.long q1), .second, .val (.int p2), .val (.int p3), .val (.int p4), .val (.long da), .second, .val (.long db), .second, .val (.int (1 : Int32)), .val (.int (1 : Int32)), .val (.ref b67), .val (.int (0 : Int32)), .val (.int s2), .val (.int s3), .val (.int (0 : Int32)), .val (.int (0 : Int32)), .val (.int (0 : Int32)), .unset, .unset, .unset, .unset, .unset] []))
          refine Runs.by (fun _ hr => XS.iload X87.here hx rfl (hb hby at_177) rfl  hr) ?_
          have hc179 : (0 : Int32) = (0 : Int32) := (by decide)
          refine Runs.by (fun _ hr => XS.ifYes X87.here hx rfl (pc0 := 179) (pc' := 248) rfl (hb hby at_179) rfl ((if0 _ _).trans (teq hc179).1) (by decide) (by decide) hr) ?_
          refine Runs.by (fun _ hr => XS.iload X87.here hx rfl (hb hby at_248) rfl  hr) ?_
          show Runs p e below _ (T87.setTop (mkF m 250 #[.val (.long q0), .second, .val (.long q1), .second, .val (.int p2), .val (.int p3), .val (.int p4), .val (.long da), .second, .val (.long db), .second, .val (.int (1 : Int32)), .val (.int (1 : Int32)), .val (.ref b67), .val (.int (0 : Int32)), .val (.int s2), .val (.int s3), .val (.int (0 : Int32)), .val (.int (0 : Int32)), .val (.int (0 : Int32)), .unset, .unset, .unset, .unset, .unset] [(.int (0 : Int32))]))
          have hc250 : (0 : Int32) = (0 : Int32) := (by decide)
          refine Runs.by (fun _ hr => XS.ifYes X87.here hx rfl (pc0 := 250) (pc' := 258) rfl (hb hby at_250) rfl ((if0 _ _).trans (teq hc250).1) (by decide) (by decide) hr) ?_
          refine Runs.by (fun _ hr => XS.iload X87.here hx rfl (hb hby at_258) rfl  hr) ?_
          have hc260 : (0 : Int32) = (0 : Int32) := (by decide)
          refine Runs.by (fun _ hr => XS.ifYes X87.here hx rfl (pc0 := 260) (pc' := 272) rfl (hb hby at_260) rfl ((if0 _ _).trans (teq hc260).1) (by decide) (by decide) hr) ?_
          show Runs p e below _ (T87.setTop (mkF m 272 #[.val (.long q0), .second, .val (.long q1), .second, .val (.int p2), .val (.int p3), .val (.int p4), .val (.long da), .second, .val (.long db), .second, .val (.int (1 : Int32)), .val (.int (1 : Int32)), .val (.ref b67), .val (.int (0 : Int32)), .val (.int s2), .val (.int s3), .val (.int (0 : Int32)), .val (.int (0 : Int32)), .val (.int (0 : Int32)), .unset, .unset, .unset, .unset, .unset] []))
          refine Runs.by (fun _ hr => XS.iconst X87.here hx rfl (hb hby at_272) hr) ?_
          refine Runs.by (fun _ hr => XS.istore X87.here hx rfl (hb hby at_273) rfl (l' := #[.val (.long q0), .second, .val (.long q1), .second, .val (.int p2), .val (.int p3), .val (.int p4), .val (.long da), .second, .val (.long db), .second, .val (.int (1 : Int32)), .val (.int (1 : Int32)), .val (.ref b67), .val (.int (0 : Int32)), .val (.int s2), .val (.int s3), .val (.int (0 : Int32)), .val (.int (0 : Int32)), .val (.int (0 : Int32)), .val (.int (0 : Int32)), .unset, .unset, .unset, .unset]) rfl hr) ?_
          refine Runs.by (fun _ hr => XS.iload X87.here hx rfl (hb hby at_275) rfl  hr) ?_
          show Runs p e below _ (T87.setTop (mkF m 277 #[.val (.long q0), .second, .val (.long q1), .second, .val (.int p2), .val (.int p3), .val (.int p4), .val (.long da), .second, .val (.long db), .second, .val (.int (1 : Int32)), .val (.int (1 : Int32)), .val (.ref b67), .val (.int (0 : Int32)), .val (.int s2), .val (.int s3), .val (.int (0 : Int32)), .val (.int (0 : Int32)), .val (.int (0 : Int32)), .val (.int (0 : Int32)), .unset, .unset, .unset, .unset] [(.int (0 : Int32))]))
          have hc277 : (0 : Int32) = (0 : Int32) := (by decide)
          refine Runs.by (fun _ hr => XS.ifNo X87.here hx rfl (hb hby at_277) rfl ((if0 _ _).trans (teq hc277).2) hr) ?_
          refine Runs.by (fun _ hr => XS.iload X87.here hx rfl (hb hby at_280) rfl  hr) ?_
          refine Runs.by (fun _ hr => XS.iload X87.here hx rfl (hb hby at_282) rfl  hr) ?_
          show Runs p e below _ (T87.setTop (mkF m 284 #[.val (.long q0), .second, .val (.long q1), .second, .val (.int p2), .val (.int p3), .val (.int p4), .val (.long da), .second, .val (.long db), .second, .val (.int (1 : Int32)), .val (.int (1 : Int32)), .val (.ref b67), .val (.int (0 : Int32)), .val (.int s2), .val (.int s3), .val (.int (0 : Int32)), .val (.int (0 : Int32)), .val (.int (0 : Int32)), .val (.int (0 : Int32)), .unset, .unset, .unset, .unset] [(.int (0 : Int32)), (.int s2)]))
          have hc284 : s2 = (0 : Int32) := hs2
          refine Runs.by (fun _ hr => XS.icmpNo X87.here hx rfl (hb hby at_284) rfl (teq hc284).2 hr) ?_
          refine Runs.by (fun _ hr => XS.iload X87.here hx rfl (hb hby at_287) rfl  hr) ?_
          refine Runs.by (fun _ hr => XS.iload X87.here hx rfl (hb hby at_289) rfl  hr) ?_
          show Runs p e below _ (T87.setTop (mkF m 291 #[.val (.long q0), .second, .val (.long q1), .second, .val (.int p2), .val (.int p3), .val (.int p4), .val (.long da), .second, .val (.long db), .second, .val (.int (1 : Int32)), .val (.int (1 : Int32)), .val (.ref b67), .val (.int (0 : Int32)), .val (.int s2), .val (.int s3), .val (.int (0 : Int32)), .val (.int (0 : Int32)), .val (.int (0 : Int32)), .val (.int (0 : Int32)), .unset, .unset, .unset, .unset] [(.int (0 : Int32)), (.int s3)]))
          have hc291 : s3 = (0 : Int32) := hs3
          refine Runs.by (fun _ hr => XS.icmpNo X87.here hx rfl (hb hby at_291) rfl (teq hc291).2 hr) ?_
          refine Runs.by (fun _ hr => XS.iconst X87.here hx rfl (hb hby at_294) hr) ?_
          refine Runs.by (fun _ hr => XS.goto X87.here hx rfl (pc0 := 295) (pc' := 299) rfl (hb hby at_295) (by decide) (by decide) hr) ?_
          show Runs p e below _ (T87.setTop (mkF m 299 #[.val (.long q0), .second, .val (.long q1), .second, .val (.int p2), .val (.int p3), .val (.int p4), .val (.long da), .second, .val (.long db), .second, .val (.int (1 : Int32)), .val (.int (1 : Int32)), .val (.ref b67), .val (.int (0 : Int32)), .val (.int s2), .val (.int s3), .val (.int (0 : Int32)), .val (.int (0 : Int32)), .val (.int (0 : Int32)), .val (.int (0 : Int32)), .unset, .unset, .unset, .unset] [(.int (1 : Int32))]))
          refine Runs.ret X87 hx hrt hlk (Or.inl ⟨rfl, by simp, _, rfl⟩) (by rfl) (hb hby at_299) (by decide) (by decide) ?_
          exact ⟨rfl, N87⟩
        · -- pc 143: not (lcmpW q1 (0 : Int64)) = (0 : Int32)
          refine Runs.by (fun _ hr => XS.ifNo X87.here hx rfl (hb hby at_143) rfl ((if0 _ _).trans (feq hc143).1) hr) ?_
          show Runs p e below _ (T87.setTop (mkF m 146 #[.val (.long q0), .second, .val (.long q1), .second, .val (.int p2), .val (.int p3), .val (.int p4), .val (.long da), .second, .val (.long db), .second, .val (.int (1 : Int32)), .val (.int (1 : Int32)), .val (.ref b67), .val (.int (0 : Int32)), .val (.int s2), .val (.int s3), .val (.int (0 : Int32)), .unset, .unset, .unset, .unset, .unset, .unset, .unset] []))
          refine Runs.by (fun _ hr => XS.lload X87.here hx rfl (hb hby at_146) rfl  hr) ?_
          refine Runs.by (fun _ hr => XS.lconst X87.here hx rfl (hb hby at_148) hr) ?_
          refine Runs.by (fun _ hr => XS.lcmp X87.here hx rfl (hb hby at_149) rfl hr) ?_
          show Runs p e below _ (T87.setTop (mkF m 150 #[.val (.long q0), .second, .val (.long q1), .second, .val (.int p2), .val (.int p3), .val (.int p4), .val (.long da), .second, .val (.long db), .second, .val (.int (1 : Int32)), .val (.int (1 : Int32)), .val (.ref b67), .val (.int (0 : Int32)), .val (.int s2), .val (.int s3), .val (.int (0 : Int32)), .unset, .unset, .unset, .unset, .unset, .unset, .unset] [(.int (lcmpW db (0 : Int64)))]))
          by_cases hc150 : (lcmpW db (0 : Int64)) = (0 : Int32)
          · -- pc 150: (lcmpW db (0 : Int64)) = (0 : Int32)
            refine Runs.by (fun _ hr => XS.ifYes X87.here hx rfl (pc0 := 150) (pc' := 157) rfl (hb hby at_150) rfl ((if0 _ _).trans (teq hc150).1) (by decide) (by decide) hr) ?_
            refine Runs.by (fun _ hr => XS.iconst X87.here hx rfl (hb hby at_157) hr) ?_
            refine Runs.by (fun _ hr => XS.istore X87.here hx rfl (hb hby at_158) rfl (l' := #[.val (.long q0), .second, .val (.long q1), .second, .val (.int p2), .val (.int p3), .val (.int p4), .val (.long da), .second, .val (.long db), .second, .val (.int (1 : Int32)), .val (.int (1 : Int32)), .val (.ref b67), .val (.int (0 : Int32)), .val (.int s2), .val (.int s3), .val (.int (0 : Int32)), .val (.int (0 : Int32)), .unset, .unset, .unset, .unset, .unset, .unset]) rfl hr) ?_
            have zD2 : own_D q1 db = 0 := own_Dz2 (own_lcz.mp hc150)
            show Runs p e below _ (T87.setTop (mkF m 160 #[.val (.long q0), .second, .val (.long q1), .second, .val (.int p2), .val (.int p3), .val (.int p4), .val (.long da), .second, .val (.long db), .second, .val (.int (1 : Int32)), .val (.int (1 : Int32)), .val (.ref b67), .val (.int (0 : Int32)), .val (.int s2), .val (.int s3), .val (.int (0 : Int32)), .val (.int (0 : Int32)), .unset, .unset, .unset, .unset, .unset, .unset] []))
            refine Runs.by (fun _ hr => XS.iload X87.here hx rfl (hb hby at_160) rfl  hr) ?_
            have hc162 : (0 : Int32) = (0 : Int32) := (by decide)
            refine Runs.by (fun _ hr => XS.ifYes X87.here hx rfl (pc0 := 162) (pc' := 174) rfl (hb hby at_162) rfl ((if0 _ _).trans (teq hc162).1) (by decide) (by decide) hr) ?_
            refine Runs.by (fun _ hr => XS.iconst X87.here hx rfl (hb hby at_174) hr) ?_
            show Runs p e below _ (T87.setTop (mkF m 175 #[.val (.long q0), .second, .val (.long q1), .second, .val (.int p2), .val (.int p3), .val (.int p4), .val (.long da), .second, .val (.long db), .second, .val (.int (1 : Int32)), .val (.int (1 : Int32)), .val (.ref b67), .val (.int (0 : Int32)), .val (.int s2), .val (.int s3), .val (.int (0 : Int32)), .val (.int (0 : Int32)), .unset, .unset, .unset, .unset, .unset, .unset] [(.int (0 : Int32))]))
            refine Runs.by (fun _ hr => XS.istore X87.here hx rfl (hb hby at_175) rfl (l' := #[.val (.long q0), .second, .val (.long q1), .second, .val (.int p2), .val (.int p3), .val (.int p4), .val (.long da), .second, .val (.long db), .second, .val (.int (1 : Int32)), .val (.int (1 : Int32)), .val (.ref b67), .val (.int (0 : Int32)), .val (.int s2), .val (.int s3), .val (.int (0 : Int32)), .val (.int (0 : Int32)), .val (.int (0 : Int32)), .unset, .unset, .unset, .unset, .unset]) rfl hr) ?_
            refine Runs.by (fun _ hr => XS.iload X87.here hx rfl (hb hby at_177) rfl  hr) ?_
            have hc179 : (0 : Int32) = (0 : Int32) := (by decide)
            refine Runs.by (fun _ hr => XS.ifYes X87.here hx rfl (pc0 := 179) (pc' := 248) rfl (hb hby at_179) rfl ((if0 _ _).trans (teq hc179).1) (by decide) (by decide) hr) ?_
            show Runs p e below _ (T87.setTop (mkF m 248 #[.val (.long q0), .second, .val (.long q1), .second, .val (.int p2), .val (.int p3), .val (.int p4), .val (.long da), .second, .val (.long db), .second, .val (.int (1 : Int32)), .val (.int (1 : Int32)), .val (.ref b67), .val (.int (0 : Int32)), .val (.int s2), .val (.int s3), .val (.int (0 : Int32)), .val (.int (0 : Int32)), .val (.int (0 : Int32)), .unset, .unset, .unset, .unset, .unset] []))
            refine Runs.by (fun _ hr => XS.iload X87.here hx rfl (hb hby at_248) rfl  hr) ?_
            have hc250 : (0 : Int32) = (0 : Int32) := (by decide)
            refine Runs.by (fun _ hr => XS.ifYes X87.here hx rfl (pc0 := 250) (pc' := 258) rfl (hb hby at_250) rfl ((if0 _ _).trans (teq hc250).1) (by decide) (by decide) hr) ?_
            refine Runs.by (fun _ hr => XS.iload X87.here hx rfl (hb hby at_258) rfl  hr) ?_
            show Runs p e below _ (T87.setTop (mkF m 260 #[.val (.long q0), .second, .val (.long q1), .second, .val (.int p2), .val (.int p3), .val (.int p4), .val (.long da), .second, .val (.long db), .second, .val (.int (1 : Int32)), .val (.int (1 : Int32)), .val (.ref b67), .val (.int (0 : Int32)), .val (.int s2), .val (.int s3), .val (.int (0 : Int32)), .val (.int (0 : Int32)), .val (.int (0 : Int32)), .unset, .unset, .unset, .unset, .unset] [(.int (0 : Int32))]))
            have hc260 : (0 : Int32) = (0 : Int32) := (by decide)
            refine Runs.by (fun _ hr => XS.ifYes X87.here hx rfl (pc0 := 260) (pc' := 272) rfl (hb hby at_260) rfl ((if0 _ _).trans (teq hc260).1) (by decide) (by decide) hr) ?_
            refine Runs.by (fun _ hr => XS.iconst X87.here hx rfl (hb hby at_272) hr) ?_
            refine Runs.by (fun _ hr => XS.istore X87.here hx rfl (hb hby at_273) rfl (l' := #[.val (.long q0), .second, .val (.long q1), .second, .val (.int p2), .val (.int p3), .val (.int p4), .val (.long da), .second, .val (.long db), .second, .val (.int (1 : Int32)), .val (.int (1 : Int32)), .val (.ref b67), .val (.int (0 : Int32)), .val (.int s2), .val (.int s3), .val (.int (0 : Int32)), .val (.int (0 : Int32)), .val (.int (0 : Int32)), .val (.int (0 : Int32)), .unset, .unset, .unset, .unset]) rfl hr) ?_
            show Runs p e below _ (T87.setTop (mkF m 275 #[.val (.long q0), .second, .val (.long q1), .second, .val (.int p2), .val (.int p3), .val (.int p4), .val (.long da), .second, .val (.long db), .second, .val (.int (1 : Int32)), .val (.int (1 : Int32)), .val (.ref b67), .val (.int (0 : Int32)), .val (.int s2), .val (.int s3), .val (.int (0 : Int32)), .val (.int (0 : Int32)), .val (.int (0 : Int32)), .val (.int (0 : Int32)), .unset, .unset, .unset, .unset] []))
            refine Runs.by (fun _ hr => XS.iload X87.here hx rfl (hb hby at_275) rfl  hr) ?_
            have hc277 : (0 : Int32) = (0 : Int32) := (by decide)
            refine Runs.by (fun _ hr => XS.ifNo X87.here hx rfl (hb hby at_277) rfl ((if0 _ _).trans (teq hc277).2) hr) ?_
            refine Runs.by (fun _ hr => XS.iload X87.here hx rfl (hb hby at_280) rfl  hr) ?_
            show Runs p e below _ (T87.setTop (mkF m 282 #[.val (.long q0), .second, .val (.long q1), .second, .val (.int p2), .val (.int p3), .val (.int p4), .val (.long da), .second, .val (.long db), .second, .val (.int (1 : Int32)), .val (.int (1 : Int32)), .val (.ref b67), .val (.int (0 : Int32)), .val (.int s2), .val (.int s3), .val (.int (0 : Int32)), .val (.int (0 : Int32)), .val (.int (0 : Int32)), .val (.int (0 : Int32)), .unset, .unset, .unset, .unset] [(.int s2)]))
            refine Runs.by (fun _ hr => XS.iload X87.here hx rfl (hb hby at_282) rfl  hr) ?_
            have hc284 : s2 = (0 : Int32) := hs2
            refine Runs.by (fun _ hr => XS.icmpNo X87.here hx rfl (hb hby at_284) rfl (teq hc284).2 hr) ?_
            refine Runs.by (fun _ hr => XS.iload X87.here hx rfl (hb hby at_287) rfl  hr) ?_
            show Runs p e below _ (T87.setTop (mkF m 289 #[.val (.long q0), .second, .val (.long q1), .second, .val (.int p2), .val (.int p3), .val (.int p4), .val (.long da), .second, .val (.long db), .second, .val (.int (1 : Int32)), .val (.int (1 : Int32)), .val (.ref b67), .val (.int (0 : Int32)), .val (.int s2), .val (.int s3), .val (.int (0 : Int32)), .val (.int (0 : Int32)), .val (.int (0 : Int32)), .val (.int (0 : Int32)), .unset, .unset, .unset, .unset] [(.int s3)]))
            refine Runs.by (fun _ hr => XS.iload X87.here hx rfl (hb hby at_289) rfl  hr) ?_
            have hc291 : s3 = (0 : Int32) := hs3
            refine Runs.by (fun _ hr => XS.icmpNo X87.here hx rfl (hb hby at_291) rfl (teq hc291).2 hr) ?_
            refine Runs.by (fun _ hr => XS.iconst X87.here hx rfl (hb hby at_294) hr) ?_
            show Runs p e below _ (T87.setTop (mkF m 295 #[.val (.long q0), .second, .val (.long q1), .second, .val (.int p2), .val (.int p3), .val (.int p4), .val (.long da), .second, .val (.long db), .second, .val (.int (1 : Int32)), .val (.int (1 : Int32)), .val (.ref b67), .val (.int (0 : Int32)), .val (.int s2), .val (.int s3), .val (.int (0 : Int32)), .val (.int (0 : Int32)), .val (.int (0 : Int32)), .val (.int (0 : Int32)), .unset, .unset, .unset, .unset] [(.int (1 : Int32))]))
            refine Runs.by (fun _ hr => XS.goto X87.here hx rfl (pc0 := 295) (pc' := 299) rfl (hb hby at_295) (by decide) (by decide) hr) ?_
            show Runs p e below _ (T87.setTop (mkF m 299 #[.val (.long q0), .second, .val (.long q1), .second, .val (.int p2), .val (.int p3), .val (.int p4), .val (.long da), .second, .val (.long db), .second, .val (.int (1 : Int32)), .val (.int (1 : Int32)), .val (.ref b67), .val (.int (0 : Int32)), .val (.int s2), .val (.int s3), .val (.int (0 : Int32)), .val (.int (0 : Int32)), .val (.int (0 : Int32)), .val (.int (0 : Int32)), .unset, .unset, .unset, .unset] [(.int (1 : Int32))]))
            refine Runs.ret X87 hx hrt hlk (Or.inl ⟨rfl, by simp, _, rfl⟩) (by rfl) (hb hby at_299) (by decide) (by decide) ?_
            exact ⟨rfl, N87⟩
          · -- pc 150: not (lcmpW db (0 : Int64)) = (0 : Int32)
            refine Runs.by (fun _ hr => XS.ifNo X87.here hx rfl (hb hby at_150) rfl ((if0 _ _).trans (feq hc150).1) hr) ?_
            refine Runs.by (fun _ hr => XS.iconst X87.here hx rfl (hb hby at_153) hr) ?_
            refine Runs.by (fun _ hr => XS.goto X87.here hx rfl (pc0 := 154) (pc' := 158) rfl (hb hby at_154) (by decide) (by decide) hr) ?_
            show Runs p e below _ (T87.setTop (mkF m 158 #[.val (.long q0), .second, .val (.long q1), .second, .val (.int p2), .val (.int p3), .val (.int p4), .val (.long da), .second, .val (.long db), .second, .val (.int (1 : Int32)), .val (.int (1 : Int32)), .val (.ref b67), .val (.int (0 : Int32)), .val (.int s2), .val (.int s3), .val (.int (0 : Int32)), .unset, .unset, .unset, .unset, .unset, .unset, .unset] [(.int (1 : Int32))]))
            refine Runs.by (fun _ hr => XS.istore X87.here hx rfl (hb hby at_158) rfl (l' := #[.val (.long q0), .second, .val (.long q1), .second, .val (.int p2), .val (.int p3), .val (.int p4), .val (.long da), .second, .val (.long db), .second, .val (.int (1 : Int32)), .val (.int (1 : Int32)), .val (.ref b67), .val (.int (0 : Int32)), .val (.int s2), .val (.int s3), .val (.int (0 : Int32)), .val (.int (1 : Int32)), .unset, .unset, .unset, .unset, .unset, .unset]) rfl hr) ?_
            have zD2 : own_D q1 db = db := own_Dn (fun z => hc143 (own_lcz.mpr z))
            have nD2 : ¬ db = 0 := fun z => hc150 (own_lcz.mpr z)
            refine Runs.by (fun _ hr => XS.iload X87.here hx rfl (hb hby at_160) rfl  hr) ?_
            have hc162 : (0 : Int32) = (0 : Int32) := (by decide)
            refine Runs.by (fun _ hr => XS.ifYes X87.here hx rfl (pc0 := 162) (pc' := 174) rfl (hb hby at_162) rfl ((if0 _ _).trans (teq hc162).1) (by decide) (by decide) hr) ?_
            show Runs p e below _ (T87.setTop (mkF m 174 #[.val (.long q0), .second, .val (.long q1), .second, .val (.int p2), .val (.int p3), .val (.int p4), .val (.long da), .second, .val (.long db), .second, .val (.int (1 : Int32)), .val (.int (1 : Int32)), .val (.ref b67), .val (.int (0 : Int32)), .val (.int s2), .val (.int s3), .val (.int (0 : Int32)), .val (.int (1 : Int32)), .unset, .unset, .unset, .unset, .unset, .unset] []))
            refine Runs.by (fun _ hr => XS.iconst X87.here hx rfl (hb hby at_174) hr) ?_
            refine Runs.by (fun _ hr => XS.istore X87.here hx rfl (hb hby at_175) rfl (l' := #[.val (.long q0), .second, .val (.long q1), .second, .val (.int p2), .val (.int p3), .val (.int p4), .val (.long da), .second, .val (.long db), .second, .val (.int (1 : Int32)), .val (.int (1 : Int32)), .val (.ref b67), .val (.int (0 : Int32)), .val (.int s2), .val (.int s3), .val (.int (0 : Int32)), .val (.int (1 : Int32)), .val (.int (0 : Int32)), .unset, .unset, .unset, .unset, .unset]) rfl hr) ?_
            refine Runs.by (fun _ hr => XS.iload X87.here hx rfl (hb hby at_177) rfl  hr) ?_
            show Runs p e below _ (T87.setTop (mkF m 179 #[.val (.long q0), .second, .val (.long q1), .second, .val (.int p2), .val (.int p3), .val (.int p4), .val (.long da), .second, .val (.long db), .second, .val (.int (1 : Int32)), .val (.int (1 : Int32)), .val (.ref b67), .val (.int (0 : Int32)), .val (.int s2), .val (.int s3), .val (.int (0 : Int32)), .val (.int (1 : Int32)), .val (.int (0 : Int32)), .unset, .unset, .unset, .unset, .unset] [(.int (0 : Int32))]))
            have hc179 : (0 : Int32) = (0 : Int32) := (by decide)
            refine Runs.by (fun _ hr => XS.ifYes X87.here hx rfl (pc0 := 179) (pc' := 248) rfl (hb hby at_179) rfl ((if0 _ _).trans (teq hc179).1) (by decide) (by decide) hr) ?_
            refine Runs.by (fun _ hr => XS.iload X87.here hx rfl (hb hby at_248) rfl  hr) ?_
            have hc250 : (0 : Int32) = (0 : Int32) := (by decide)
            refine Runs.by (fun _ hr => XS.ifYes X87.here hx rfl (pc0 := 250) (pc' := 258) rfl (hb hby at_250) rfl ((if0 _ _).trans (teq hc250).1) (by decide) (by decide) hr) ?_
            show Runs p e below _ (T87.setTop (mkF m 258 #[.val (.long q0), .second, .val (.long q1), .second, .val (.int p2), .val (.int p3), .val (.int p4), .val (.long da), .second, .val (.long db), .second, .val (.int (1 : Int32)), .val (.int (1 : Int32)), .val (.ref b67), .val (.int (0 : Int32)), .val (.int s2), .val (.int s3), .val (.int (0 : Int32)), .val (.int (1 : Int32)), .val (.int (0 : Int32)), .unset, .unset, .unset, .unset, .unset] []))
            refine Runs.by (fun _ hr => XS.iload X87.here hx rfl (hb hby at_258) rfl  hr) ?_
            have hc260 : ¬ ((1 : Int32) = (0 : Int32)) := (by decide)
            refine Runs.by (fun _ hr => XS.ifNo X87.here hx rfl (hb hby at_260) rfl ((if0 _ _).trans (feq hc260).1) hr) ?_
            refine Runs.by (fun _ hr => XS.iload X87.here hx rfl (hb hby at_263) rfl  hr) ?_
            show Runs p e below _ (T87.setTop (mkF m 265 #[.val (.long q0), .second, .val (.long q1), .second, .val (.int p2), .val (.int p3), .val (.int p4), .val (.long da), .second, .val (.long db), .second, .val (.int (1 : Int32)), .val (.int (1 : Int32)), .val (.ref b67), .val (.int (0 : Int32)), .val (.int s2), .val (.int s3), .val (.int (0 : Int32)), .val (.int (1 : Int32)), .val (.int (0 : Int32)), .unset, .unset, .unset, .unset, .unset] [(.int (1 : Int32))]))
            have hc265 : ¬ ((1 : Int32) = (0 : Int32)) := (by decide)
            refine Runs.by (fun _ hr => XS.ifYes X87.here hx rfl (pc0 := 265) (pc' := 272) rfl (hb hby at_265) rfl ((if0 _ _).trans (feq hc265).2) (by decide) (by decide) hr) ?_
            refine Runs.by (fun _ hr => XS.iconst X87.here hx rfl (hb hby at_272) hr) ?_
            refine Runs.by (fun _ hr => XS.istore X87.here hx rfl (hb hby at_273) rfl (l' := #[.val (.long q0), .second, .val (.long q1), .second, .val (.int p2), .val (.int p3), .val (.int p4), .val (.long da), .second, .val (.long db), .second, .val (.int (1 : Int32)), .val (.int (1 : Int32)), .val (.ref b67), .val (.int (0 : Int32)), .val (.int s2), .val (.int s3), .val (.int (0 : Int32)), .val (.int (1 : Int32)), .val (.int (0 : Int32)), .val (.int (0 : Int32)), .unset, .unset, .unset, .unset]) rfl hr) ?_
            show Runs p e below _ (T87.setTop (mkF m 275 #[.val (.long q0), .second, .val (.long q1), .second, .val (.int p2), .val (.int p3), .val (.int p4), .val (.long da), .second, .val (.long db), .second, .val (.int (1 : Int32)), .val (.int (1 : Int32)), .val (.ref b67), .val (.int (0 : Int32)), .val (.int s2), .val (.int s3), .val (.int (0 : Int32)), .val (.int (1 : Int32)), .val (.int (0 : Int32)), .val (.int (0 : Int32)), .unset, .unset, .unset, .unset] []))
            refine Runs.by (fun _ hr => XS.iload X87.here hx rfl (hb hby at_275) rfl  hr) ?_
            have hc277 : (0 : Int32) = (0 : Int32) := (by decide)
            refine Runs.by (fun _ hr => XS.ifNo X87.here hx rfl (hb hby at_277) rfl ((if0 _ _).trans (teq hc277).2) hr) ?_
            refine Runs.by (fun _ hr => XS.iload X87.here hx rfl (hb hby at_280) rfl  hr) ?_
            show Runs p e below _ (T87.setTop (mkF m 282 #[.val (.long q0), .second, .val (.long q1), .second, .val (.int p2), .val (.int p3), .val (.int p4), .val (.long da), .second, .val (.long db), .second, .val (.int (1 : Int32)), .val (.int (1 : Int32)), .val (.ref b67), .val (.int (0 : Int32)), .val (.int s2), .val (.int s3), .val (.int (0 : Int32)), .val (.int (1 : Int32)), .val (.int (0 : Int32)), .val (.int (0 : Int32)), .unset, .unset, .unset, .unset] [(.int s2)]))
            refine Runs.by (fun _ hr => XS.iload X87.here hx rfl (hb hby at_282) rfl  hr) ?_
            have hc284 : s2 = (0 : Int32) := hs2
            refine Runs.by (fun _ hr => XS.icmpNo X87.here hx rfl (hb hby at_284) rfl (teq hc284).2 hr) ?_
            refine Runs.by (fun _ hr => XS.iload X87.here hx rfl (hb hby at_287) rfl  hr) ?_
            show Runs p e below _ (T87.setTop (mkF m 289 #[.val (.long q0), .second, .val (.long q1), .second, .val (.int p2), .val (.int p3), .val (.int p4), .val (.long da), .second, .val (.long db), .second, .val (.int (1 : Int32)), .val (.int (1 : Int32)), .val (.ref b67), .val (.int (0 : Int32)), .val (.int s2), .val (.int s3), .val (.int (0 : Int32)), .val (.int (1 : Int32)), .val (.int (0 : Int32)), .val (.int (0 : Int32)), .unset, .unset, .unset, .unset] [(.int s3)]))
            refine Runs.by (fun _ hr => XS.iload X87.here hx rfl (hb hby at_289) rfl  hr) ?_
            have hc291 : s3 = (0 : Int32) := hs3
            refine Runs.by (fun _ hr => XS.icmpNo X87.here hx rfl (hb hby at_291) rfl (teq hc291).2 hr) ?_
            refine Runs.by (fun _ hr => XS.iconst X87.here hx rfl (hb hby at_294) hr) ?_
            show Runs p e below _ (T87.setTop (mkF m 295 #[.val (.long q0), .second, .val (.long q1), .second, .val (.int p2), .val (.int p3), .val (.int p4), .val (.long da), .second, .val (.long db), .second, .val (.int (1 : Int32)), .val (.int (1 : Int32)), .val (.ref b67), .val (.int (0 : Int32)), .val (.int s2), .val (.int s3), .val (.int (0 : Int32)), .val (.int (1 : Int32)), .val (.int (0 : Int32)), .val (.int (0 : Int32)), .unset, .unset, .unset, .unset] [(.int (1 : Int32))]))
            refine Runs.by (fun _ hr => XS.goto X87.here hx rfl (pc0 := 295) (pc' := 299) rfl (hb hby at_295) (by decide) (by decide) hr) ?_
            show Runs p e below _ (T87.setTop (mkF m 299 #[.val (.long q0), .second, .val (.long q1), .second, .val (.int p2), .val (.int p3), .val (.int p4), .val (.long da), .second, .val (.long db), .second, .val (.int (1 : Int32)), .val (.int (1 : Int32)), .val (.ref b67), .val (.int (0 : Int32)), .val (.int s2), .val (.int s3), .val (.int (0 : Int32)), .val (.int (1 : Int32)), .val (.int (0 : Int32)), .val (.int (0 : Int32)), .unset, .unset, .unset, .unset] [(.int (1 : Int32))]))
            refine Runs.ret X87 hx hrt hlk (Or.inl ⟨rfl, by simp, _, rfl⟩) (by rfl) (hb hby at_299) (by decide) (by decide) ?_
            exact ⟨rfl, N87⟩
      · -- pc 123: not (lcmpW q0 (0 : Int64)) = (0 : Int32)
        refine Runs.by (fun _ hr => XS.ifNo X87.here hx rfl (hb hby at_123) rfl ((if0 _ _).trans (feq hc123).1) hr) ?_
        show Runs p e below _ (T87.setTop (mkF m 126 #[.val (.long q0), .second, .val (.long q1), .second, .val (.int p2), .val (.int p3), .val (.int p4), .val (.long da), .second, .val (.long db), .second, .val (.int (1 : Int32)), .val (.int (1 : Int32)), .val (.ref b67), .val (.int (0 : Int32)), .val (.int s2), .val (.int s3), .unset, .unset, .unset, .unset, .unset, .unset, .unset, .unset] []))
        refine Runs.by (fun _ hr => XS.lload X87.here hx rfl (hb hby at_126) rfl  hr) ?_
        refine Runs.by (fun _ hr => XS.lconst X87.here hx rfl (hb hby at_128) hr) ?_
        refine Runs.by (fun _ hr => XS.lcmp X87.here hx rfl (hb hby at_129) rfl hr) ?_
        show Runs p e below _ (T87.setTop (mkF m 130 #[.val (.long q0), .second, .val (.long q1), .second, .val (.int p2), .val (.int p3), .val (.int p4), .val (.long da), .second, .val (.long db), .second, .val (.int (1 : Int32)), .val (.int (1 : Int32)), .val (.ref b67), .val (.int (0 : Int32)), .val (.int s2), .val (.int s3), .unset, .unset, .unset, .unset, .unset, .unset, .unset, .unset] [(.int (lcmpW da (0 : Int64)))]))
        by_cases hc130 : (lcmpW da (0 : Int64)) = (0 : Int32)
        · -- pc 130: (lcmpW da (0 : Int64)) = (0 : Int32)
          refine Runs.by (fun _ hr => XS.ifYes X87.here hx rfl (pc0 := 130) (pc' := 137) rfl (hb hby at_130) rfl ((if0 _ _).trans (teq hc130).1) (by decide) (by decide) hr) ?_
          refine Runs.by (fun _ hr => XS.iconst X87.here hx rfl (hb hby at_137) hr) ?_
          refine Runs.by (fun _ hr => XS.istore X87.here hx rfl (hb hby at_138) rfl (l' := #[.val (.long q0), .second, .val (.long q1), .second, .val (.int p2), .val (.int p3), .val (.int p4), .val (.long da), .second, .val (.long db), .second, .val (.int (1 : Int32)), .val (.int (1 : Int32)), .val (.ref b67), .val (.int (0 : Int32)), .val (.int s2), .val (.int s3), .val (.int (0 : Int32)), .unset, .unset, .unset, .unset, .unset, .unset, .unset]) rfl hr) ?_
          have zD1 : own_D q0 da = 0 := own_Dz2 (own_lcz.mp hc130)
          show Runs p e below _ (T87.setTop (mkF m 140 #[.val (.long q0), .second, .val (.long q1), .second, .val (.int p2), .val (.int p3), .val (.int p4), .val (.long da), .second, .val (.long db), .second, .val (.int (1 : Int32)), .val (.int (1 : Int32)), .val (.ref b67), .val (.int (0 : Int32)), .val (.int s2), .val (.int s3), .val (.int (0 : Int32)), .unset, .unset, .unset, .unset, .unset, .unset, .unset] []))
          refine Runs.by (fun _ hr => XS.lloadN X87.here hx rfl (hb hby at_140) rfl  hr) ?_
          refine Runs.by (fun _ hr => XS.lconst X87.here hx rfl (hb hby at_141) hr) ?_
          refine Runs.by (fun _ hr => XS.lcmp X87.here hx rfl (hb hby at_142) rfl hr) ?_
          show Runs p e below _ (T87.setTop (mkF m 143 #[.val (.long q0), .second, .val (.long q1), .second, .val (.int p2), .val (.int p3), .val (.int p4), .val (.long da), .second, .val (.long db), .second, .val (.int (1 : Int32)), .val (.int (1 : Int32)), .val (.ref b67), .val (.int (0 : Int32)), .val (.int s2), .val (.int s3), .val (.int (0 : Int32)), .unset, .unset, .unset, .unset, .unset, .unset, .unset] [(.int (lcmpW q1 (0 : Int64)))]))
          by_cases hc143 : (lcmpW q1 (0 : Int64)) = (0 : Int32)
          · -- pc 143: (lcmpW q1 (0 : Int64)) = (0 : Int32)
            refine Runs.by (fun _ hr => XS.ifYes X87.here hx rfl (pc0 := 143) (pc' := 157) rfl (hb hby at_143) rfl ((if0 _ _).trans (teq hc143).1) (by decide) (by decide) hr) ?_
            refine Runs.by (fun _ hr => XS.iconst X87.here hx rfl (hb hby at_157) hr) ?_
            refine Runs.by (fun _ hr => XS.istore X87.here hx rfl (hb hby at_158) rfl (l' := #[.val (.long q0), .second, .val (.long q1), .second, .val (.int p2), .val (.int p3), .val (.int p4), .val (.long da), .second, .val (.long db), .second, .val (.int (1 : Int32)), .val (.int (1 : Int32)), .val (.ref b67), .val (.int (0 : Int32)), .val (.int s2), .val (.int s3), .val (.int (0 : Int32)), .val (.int (0 : Int32)), .unset, .unset, .unset, .unset, .unset, .unset]) rfl hr) ?_
            have zD2 : own_D q1 db = 0 := own_Dz1 (own_lcz.mp hc143)
            show Runs p e below _ (T87.setTop (mkF m 160 #[.val (.long q0), .second, .val (.long q1), .second, .val (.int p2), .val (.int p3), .val (.int p4), .val (.long da), .second, .val (.long db), .second, .val (.int (1 : Int32)), .val (.int (1 : Int32)), .val (.ref b67), .val (.int (0 : Int32)), .val (.int s2), .val (.int s3), .val (.int (0 : Int32)), .val (.int (0 : Int32)), .unset, .unset, .unset, .unset, .unset, .unset] []))
            refine Runs.by (fun _ hr => XS.iload X87.here hx rfl (hb hby at_160) rfl  hr) ?_
            have hc162 : (0 : Int32) = (0 : Int32) := (by decide)
            refine Runs.by (fun _ hr => XS.ifYes X87.here hx rfl (pc0 := 162) (pc' := 174) rfl (hb hby at_162) rfl ((if0 _ _).trans (teq hc162).1) (by decide) (by decide) hr) ?_
            refine Runs.by (fun _ hr => XS.iconst X87.here hx rfl (hb hby at_174) hr) ?_
            show Runs p e below _ (T87.setTop (mkF m 175 #[.val (.long q0), .second, .val (.long q1), .second, .val (.int p2), .val (.int p3), .val (.int p4), .val (.long da), .second, .val (.long db), .second, .val (.int (1 : Int32)), .val (.int (1 : Int32)), .val (.ref b67), .val (.int (0 : Int32)), .val (.int s2), .val (.int s3), .val (.int (0 : Int32)), .val (.int (0 : Int32)), .unset, .unset, .unset, .unset, .unset, .unset] [(.int (0 : Int32))]))
            refine Runs.by (fun _ hr => XS.istore X87.here hx rfl (hb hby at_175) rfl (l' := #[.val (.long q0), .second, .val (.long q1), .second, .val (.int p2), .val (.int p3), .val (.int p4), .val (.long da), .second, .val (.long db), .second, .val (.int (1 : Int32)), .val (.int (1 : Int32)), .val (.ref b67), .val (.int (0 : Int32)), .val (.int s2), .val (.int s3), .val (.int (0 : Int32)), .val (.int (0 : Int32)), .val (.int (0 : Int32)), .unset, .unset, .unset, .unset, .unset]) rfl hr) ?_
            refine Runs.by (fun _ hr => XS.iload X87.here hx rfl (hb hby at_177) rfl  hr) ?_
            have hc179 : (0 : Int32) = (0 : Int32) := (by decide)
            refine Runs.by (fun _ hr => XS.ifYes X87.here hx rfl (pc0 := 179) (pc' := 248) rfl (hb hby at_179) rfl ((if0 _ _).trans (teq hc179).1) (by decide) (by decide) hr) ?_
            show Runs p e below _ (T87.setTop (mkF m 248 #[.val (.long q0), .second, .val (.long q1), .second, .val (.int p2), .val (.int p3), .val (.int p4), .val (.long da), .second, .val (.long db), .second, .val (.int (1 : Int32)), .val (.int (1 : Int32)), .val (.ref b67), .val (.int (0 : Int32)), .val (.int s2), .val (.int s3), .val (.int (0 : Int32)), .val (.int (0 : Int32)), .val (.int (0 : Int32)), .unset, .unset, .unset, .unset, .unset] []))
            refine Runs.by (fun _ hr => XS.iload X87.here hx rfl (hb hby at_248) rfl  hr) ?_
            have hc250 : (0 : Int32) = (0 : Int32) := (by decide)
            refine Runs.by (fun _ hr => XS.ifYes X87.here hx rfl (pc0 := 250) (pc' := 258) rfl (hb hby at_250) rfl ((if0 _ _).trans (teq hc250).1) (by decide) (by decide) hr) ?_
            refine Runs.by (fun _ hr => XS.iload X87.here hx rfl (hb hby at_258) rfl  hr) ?_
            show Runs p e below _ (T87.setTop (mkF m 260 #[.val (.long q0), .second, .val (.long q1), .second, .val (.int p2), .val (.int p3), .val (.int p4), .val (.long da), .second, .val (.long db), .second, .val (.int (1 : Int32)), .val (.int (1 : Int32)), .val (.ref b67), .val (.int (0 : Int32)), .val (.int s2), .val (.int s3), .val (.int (0 : Int32)), .val (.int (0 : Int32)), .val (.int (0 : Int32)), .unset, .unset, .unset, .unset, .unset] [(.int (0 : Int32))]))
            have hc260 : (0 : Int32) = (0 : Int32) := (by decide)
            refine Runs.by (fun _ hr => XS.ifYes X87.here hx rfl (pc0 := 260) (pc' := 272) rfl (hb hby at_260) rfl ((if0 _ _).trans (teq hc260).1) (by decide) (by decide) hr) ?_
            refine Runs.by (fun _ hr => XS.iconst X87.here hx rfl (hb hby at_272) hr) ?_
            refine Runs.by (fun _ hr => XS.istore X87.here hx rfl (hb hby at_273) rfl (l' := #[.val (.long q0), .second, .val (.long q1), .second, .val (.int p2), .val (.int p3), .val (.int p4), .val (.long da), .second, .val (.long db), .second, .val (.int (1 : Int32)), .val (.int (1 : Int32)), .val (.ref b67), .val (.int (0 : Int32)), .val (.int s2), .val (.int s3), .val (.int (0 : Int32)), .val (.int (0 : Int32)), .val (.int (0 : Int32)), .val (.int (0 : Int32)), .unset, .unset, .unset, .unset]) rfl hr) ?_
            show Runs p e below _ (T87.setTop (mkF m 275 #[.val (.long q0), .second, .val (.long q1), .second, .val (.int p2), .val (.int p3), .val (.int p4), .val (.long da), .second, .val (.long db), .second, .val (.int (1 : Int32)), .val (.int (1 : Int32)), .val (.ref b67), .val (.int (0 : Int32)), .val (.int s2), .val (.int s3), .val (.int (0 : Int32)), .val (.int (0 : Int32)), .val (.int (0 : Int32)), .val (.int (0 : Int32)), .unset, .unset, .unset, .unset] []))
            refine Runs.by (fun _ hr => XS.iload X87.here hx rfl (hb hby at_275) rfl  hr) ?_
            have hc277 : (0 : Int32) = (0 : Int32) := (by decide)
            refine Runs.by (fun _ hr => XS.ifNo X87.here hx rfl (hb hby at_277) rfl ((if0 _ _).trans (teq hc277).2) hr) ?_
            refine Runs.by (fun _ hr => XS.iload X87.here hx rfl (hb hby at_280) rfl  hr) ?_
            show Runs p e below _ (T87.setTop (mkF m 282 #[.val (.long q0), .second, .val (.long q1), .second, .val (.int p2), .val (.int p3), .val (.int p4), .val (.long da), .second, .val (.long db), .second, .val (.int (1 : Int32)), .val (.int (1 : Int32)), .val (.ref b67), .val (.int (0 : Int32)), .val (.int s2), .val (.int s3), .val (.int (0 : Int32)), .val (.int (0 : Int32)), .val (.int (0 : Int32)), .val (.int (0 : Int32)), .unset, .unset, .unset, .unset] [(.int s2)]))
            refine Runs.by (fun _ hr => XS.iload X87.here hx rfl (hb hby at_282) rfl  hr) ?_
            have hc284 : s2 = (0 : Int32) := hs2
            refine Runs.by (fun _ hr => XS.icmpNo X87.here hx rfl (hb hby at_284) rfl (teq hc284).2 hr) ?_
            refine Runs.by (fun _ hr => XS.iload X87.here hx rfl (hb hby at_287) rfl  hr) ?_
            show Runs p e below _ (T87.setTop (mkF m 289 #[.val (.long q0), .second, .val (.long q1), .second, .val (.int p2), .val (.int p3), .val (.int p4), .val (.long da), .second, .val (.long db), .second, .val (.int (1 : Int32)), .val (.int (1 : Int32)), .val (.ref b67), .val (.int (0 : Int32)), .val (.int s2), .val (.int s3), .val (.int (0 : Int32)), .val (.int (0 : Int32)), .val (.int (0 : Int32)), .val (.int (0 : Int32)), .unset, .unset, .unset, .unset] [(.int s3)]))
            refine Runs.by (fun _ hr => XS.iload X87.here hx rfl (hb hby at_289) rfl  hr) ?_
            have hc291 : s3 = (0 : Int32) := hs3
            refine Runs.by (fun _ hr => XS.icmpNo X87.here hx rfl (hb hby at_291) rfl (teq hc291).2 hr) ?_
            refine Runs.by (fun _ hr => XS.iconst X87.here hx rfl (hb hby at_294) hr) ?_
            show Runs p e below _ (T87.setTop (mkF m 295 #[.val (.long q0), .second, .val (.long q1), .second, .val (.int p2), .val (.int p3), .val (.int p4), .val (.long da), .second, .val (.long db), .second, .val (.int (1 : Int32)), .val (.int (1 : Int32)), .val (.ref b67), .val (.int (0 : Int32)), .val (.int s2), .val (.int s3), .val (.int (0 : Int32)), .val (.int (0 : Int32)), .val (.int (0 : Int32)), .val (.int (0 : Int32)), .unset, .unset, .unset, .unset] [(.int (1 : Int32))]))
            refine Runs.by (fun _ hr => XS.goto X87.here hx rfl (pc0 := 295) (pc' := 299) rfl (hb hby at_295) (by decide) (by decide) hr) ?_
            show Runs p e below _ (T87.setTop (mkF m 299 #[.val (.long q0), .second, .val (.long q1), .second, .val (.int p2), .val (.int p3), .val (.int p4), .val (.long da), .second, .val (.long db), .second, .val (.int (1 : Int32)), .val (.int (1 : Int32)), .val (.ref b67), .val (.int (0 : Int32)), .val (.int s2), .val (.int s3), .val (.int (0 : Int32)), .val (.int (0 : Int32)), .val (.int (0 : Int32)), .val (.int (0 : Int32)), .unset, .unset, .unset, .unset] [(.int (1 : Int32))]))
            refine Runs.ret X87 hx hrt hlk (Or.inl ⟨rfl, by simp, _, rfl⟩) (by rfl) (hb hby at_299) (by decide) (by decide) ?_
            exact ⟨rfl, N87⟩
          · -- pc 143: not (lcmpW q1 (0 : Int64)) = (0 : Int32)
            refine Runs.by (fun _ hr => XS.ifNo X87.here hx rfl (hb hby at_143) rfl ((if0 _ _).trans (feq hc143).1) hr) ?_
            refine Runs.by (fun _ hr => XS.lload X87.here hx rfl (hb hby at_146) rfl  hr) ?_
            refine Runs.by (fun _ hr => XS.lconst X87.here hx rfl (hb hby at_148) hr) ?_
            show Runs p e below _ (T87.setTop (mkF m 149 #[.val (.long q0), .second, .val (.long q1), .second, .val (.int p2), .val (.int p3), .val (.int p4), .val (.long da), .second, .val (.long db), .second, .val (.int (1 : Int32)), .val (.int (1 : Int32)), .val (.ref b67), .val (.int (0 : Int32)), .val (.int s2), .val (.int s3), .val (.int (0 : Int32)), .unset, .unset, .unset, .unset, .unset, .unset, .unset] [(.long (0 : Int64)), (.long db)]))
            refine Runs.by (fun _ hr => XS.lcmp X87.here hx rfl (hb hby at_149) rfl hr) ?_
            by_cases hc150 : (lcmpW db (0 : Int64)) = (0 : Int32)
            · -- pc 150: (lcmpW db (0 : Int64)) = (0 : Int32)
              refine Runs.by (fun _ hr => XS.ifYes X87.here hx rfl (pc0 := 150) (pc' := 157) rfl (hb hby at_150) rfl ((if0 _ _).trans (teq hc150).1) (by decide) (by decide) hr) ?_
              refine Runs.by (fun _ hr => XS.iconst X87.here hx rfl (hb hby at_157) hr) ?_
              show Runs p e below _ (T87.setTop (mkF m 158 #[.val (.long q0), .second, .val (.long q1), .second, .val (.int p2), .val (.int p3), .val (.int p4), .val (.long da), .second, .val (.long db), .second, .val (.int (1 : Int32)), .val (.int (1 : Int32)), .val (.ref b67), .val (.int (0 : Int32)), .val (.int s2), .val (.int s3), .val (.int (0 : Int32)), .unset, .unset, .unset, .unset, .unset, .unset, .unset] [(.int (0 : Int32))]))
              refine Runs.by (fun _ hr => XS.istore X87.here hx rfl (hb hby at_158) rfl (l' := #[.val (.long q0), .second, .val (.long q1), .second, .val (.int p2), .val (.int p3), .val (.int p4), .val (.long da), .second, .val (.long db), .second, .val (.int (1 : Int32)), .val (.int (1 : Int32)), .val (.ref b67), .val (.int (0 : Int32)), .val (.int s2), .val (.int s3), .val (.int (0 : Int32)), .val (.int (0 : Int32)), .unset, .unset, .unset, .unset, .unset, .unset]) rfl hr) ?_
              have zD2 : own_D q1 db = 0 := own_Dz2 (own_lcz.mp hc150)
              refine Runs.by (fun _ hr => XS.iload X87.here hx rfl (hb hby at_160) rfl  hr) ?_
              have hc162 : (0 : Int32) = (0 : Int32) := (by decide)
              refine Runs.by (fun _ hr => XS.ifYes X87.here hx rfl (pc0 := 162) (pc' := 174) rfl (hb hby at_162) rfl ((if0 _ _).trans (teq hc162).1) (by decide) (by decide) hr) ?_
              show Runs p e below _ (T87.setTop (mkF m 174 #[.val (.long q0), .second, .val (.long q1), .second, .val (.int p2), .val (.int p3), .val (.int p4), .val (.long da), .second, .val (.long db), .second, .val (.int (1 : Int32)), .val (.int (1 : Int32)), .val (.ref b67), .val (.int (0 : Int32)), .val (.int s2), .val (.int s3), .val (.int (0 : Int32)), .val (.int (0 : Int32)), .unset, .unset, .unset, .unset, .unset, .unset] []))
              refine Runs.by (fun _ hr => XS.iconst X87.here hx rfl (hb hby at_174) hr) ?_
              refine Runs.by (fun _ hr => XS.istore X87.here hx rfl (hb hby at_175) rfl (l' := #[.val (.long q0), .second, .val (.long q1), .second, .val (.int p2), .val (.int p3), .val (.int p4), .val (.long da), .second, .val (.long db), .second, .val (.int (1 : Int32)), .val (.int (1 : Int32)), .val (.ref b67), .val (.int (0 : Int32)), .val (.int s2), .val (.int s3), .val (.int (0 : Int32)), .val (.int (0 : Int32)), .val (.int (0 : Int32)), .unset, .unset, .unset, .unset, .unset]) rfl hr) ?_
              refine Runs.by (fun _ hr => XS.iload X87.here hx rfl (hb hby at_177) rfl  hr) ?_
              show Runs p e below _ (T87.setTop (mkF m 179 #[.val (.long q0), .second, .val (.long q1), .second, .val (.int p2), .val (.int p3), .val (.int p4), .val (.long da), .second, .val (.long db), .second, .val (.int (1 : Int32)), .val (.int (1 : Int32)), .val (.ref b67), .val (.int (0 : Int32)), .val (.int s2), .val (.int s3), .val (.int (0 : Int32)), .val (.int (0 : Int32)), .val (.int (0 : Int32)), .unset, .unset, .unset, .unset, .unset] [(.int (0 : Int32))]))
              have hc179 : (0 : Int32) = (0 : Int32) := (by decide)
              refine Runs.by (fun _ hr => XS.ifYes X87.here hx rfl (pc0 := 179) (pc' := 248) rfl (hb hby at_179) rfl ((if0 _ _).trans (teq hc179).1) (by decide) (by decide) hr) ?_
              refine Runs.by (fun _ hr => XS.iload X87.here hx rfl (hb hby at_248) rfl  hr) ?_
              have hc250 : (0 : Int32) = (0 : Int32) := (by decide)
              refine Runs.by (fun _ hr => XS.ifYes X87.here hx rfl (pc0 := 250) (pc' := 258) rfl (hb hby at_250) rfl ((if0 _ _).trans (teq hc250).1) (by decide) (by decide) hr) ?_
              show Runs p e below _ (T87.setTop (mkF m 258 #[.val (.long q0), .second, .val (.long q1), .second, .val (.int p2), .val (.int p3), .val (.int p4), .val (.long da), .second, .val (.long db), .second, .val (.int (1 : Int32)), .val (.int (1 : Int32)), .val (.ref b67), .val (.int (0 : Int32)), .val (.int s2), .val (.int s3), .val (.int (0 : Int32)), .val (.int (0 : Int32)), .val (.int (0 : Int32)), .unset, .unset, .unset, .unset, .unset] []))
              refine Runs.by (fun _ hr => XS.iload X87.here hx rfl (hb hby at_258) rfl  hr) ?_
              have hc260 : (0 : Int32) = (0 : Int32) := (by decide)
              refine Runs.by (fun _ hr => XS.ifYes X87.here hx rfl (pc0 := 260) (pc' := 272) rfl (hb hby at_260) rfl ((if0 _ _).trans (teq hc260).1) (by decide) (by decide) hr) ?_
              refine Runs.by (fun _ hr => XS.iconst X87.here hx rfl (hb hby at_272) hr) ?_
              show Runs p e below _ (T87.setTop (mkF m 273 #[.val (.long q0), .second, .val (.long q1), .second, .val (.int p2), .val (.int p3), .val (.int p4), .val (.long da), .second, .val (.long db), .second, .val (.int (1 : Int32)), .val (.int (1 : Int32)), .val (.ref b67), .val (.int (0 : Int32)), .val (.int s2), .val (.int s3), .val (.int (0 : Int32)), .val (.int (0 : Int32)), .val (.int (0 : Int32)), .unset, .unset, .unset, .unset, .unset] [(.int (0 : Int32))]))
              refine Runs.by (fun _ hr => XS.istore X87.here hx rfl (hb hby at_273) rfl (l' := #[.val (.long q0), .second, .val (.long q1), .second, .val (.int p2), .val (.int p3), .val (.int p4), .val (.long da), .second, .val (.long db), .second, .val (.int (1 : Int32)), .val (.int (1 : Int32)), .val (.ref b67), .val (.int (0 : Int32)), .val (.int s2), .val (.int s3), .val (.int (0 : Int32)), .val (.int (0 : Int32)), .val (.int (0 : Int32)), .val (.int (0 : Int32)), .unset, .unset, .unset, .unset]) rfl hr) ?_
              refine Runs.by (fun _ hr => XS.iload X87.here hx rfl (hb hby at_275) rfl  hr) ?_
              have hc277 : (0 : Int32) = (0 : Int32) := (by decide)
              refine Runs.by (fun _ hr => XS.ifNo X87.here hx rfl (hb hby at_277) rfl ((if0 _ _).trans (teq hc277).2) hr) ?_
              show Runs p e below _ (T87.setTop (mkF m 280 #[.val (.long q0), .second, .val (.long q1), .second, .val (.int p2), .val (.int p3), .val (.int p4), .val (.long da), .second, .val (.long db), .second, .val (.int (1 : Int32)), .val (.int (1 : Int32)), .val (.ref b67), .val (.int (0 : Int32)), .val (.int s2), .val (.int s3), .val (.int (0 : Int32)), .val (.int (0 : Int32)), .val (.int (0 : Int32)), .val (.int (0 : Int32)), .unset, .unset, .unset, .unset] []))
              refine Runs.by (fun _ hr => XS.iload X87.here hx rfl (hb hby at_280) rfl  hr) ?_
              refine Runs.by (fun _ hr => XS.iload X87.here hx rfl (hb hby at_282) rfl  hr) ?_
              have hc284 : s2 = (0 : Int32) := hs2
              refine Runs.by (fun _ hr => XS.icmpNo X87.here hx rfl (hb hby at_284) rfl (teq hc284).2 hr) ?_
              show Runs p e below _ (T87.setTop (mkF m 287 #[.val (.long q0), .second, .val (.long q1), .second, .val (.int p2), .val (.int p3), .val (.int p4), .val (.long da), .second, .val (.long db), .second, .val (.int (1 : Int32)), .val (.int (1 : Int32)), .val (.ref b67), .val (.int (0 : Int32)), .val (.int s2), .val (.int s3), .val (.int (0 : Int32)), .val (.int (0 : Int32)), .val (.int (0 : Int32)), .val (.int (0 : Int32)), .unset, .unset, .unset, .unset] []))
              refine Runs.by (fun _ hr => XS.iload X87.here hx rfl (hb hby at_287) rfl  hr) ?_
              refine Runs.by (fun _ hr => XS.iload X87.here hx rfl (hb hby at_289) rfl  hr) ?_
              have hc291 : s3 = (0 : Int32) := hs3
              refine Runs.by (fun _ hr => XS.icmpNo X87.here hx rfl (hb hby at_291) rfl (teq hc291).2 hr) ?_
              show Runs p e below _ (T87.setTop (mkF m 294 #[.val (.long q0), .second, .val (.long q1), .second, .val (.int p2), .val (.int p3), .val (.int p4), .val (.long da), .second, .val (.long db), .second, .val (.int (1 : Int32)), .val (.int (1 : Int32)), .val (.ref b67), .val (.int (0 : Int32)), .val (.int s2), .val (.int s3), .val (.int (0 : Int32)), .val (.int (0 : Int32)), .val (.int (0 : Int32)), .val (.int (0 : Int32)), .unset, .unset, .unset, .unset] []))
              refine Runs.by (fun _ hr => XS.iconst X87.here hx rfl (hb hby at_294) hr) ?_
              refine Runs.by (fun _ hr => XS.goto X87.here hx rfl (pc0 := 295) (pc' := 299) rfl (hb hby at_295) (by decide) (by decide) hr) ?_
              show Runs p e below _ (T87.setTop (mkF m 299 #[.val (.long q0), .second, .val (.long q1), .second, .val (.int p2), .val (.int p3), .val (.int p4), .val (.long da), .second, .val (.long db), .second, .val (.int (1 : Int32)), .val (.int (1 : Int32)), .val (.ref b67), .val (.int (0 : Int32)), .val (.int s2), .val (.int s3), .val (.int (0 : Int32)), .val (.int (0 : Int32)), .val (.int (0 : Int32)), .val (.int (0 : Int32)), .unset, .unset, .unset, .unset] [(.int (1 : Int32))]))
              refine Runs.ret X87 hx hrt hlk (Or.inl ⟨rfl, by simp, _, rfl⟩) (by rfl) (hb hby at_299) (by decide) (by decide) ?_
              exact ⟨rfl, N87⟩
            · -- pc 150: not (lcmpW db (0 : Int64)) = (0 : Int32)
              refine Runs.by (fun _ hr => XS.ifNo X87.here hx rfl (hb hby at_150) rfl ((if0 _ _).trans (feq hc150).1) hr) ?_
              refine Runs.by (fun _ hr => XS.iconst X87.here hx rfl (hb hby at_153) hr) ?_
              show Runs p e below _ (T87.setTop (mkF m 154 #[.val (.long q0), .second, .val (.long q1), .second, .val (.int p2), .val (.int p3), .val (.int p4), .val (.long da), .second, .val (.long db), .second, .val (.int (1 : Int32)), .val (.int (1 : Int32)), .val (.ref b67), .val (.int (0 : Int32)), .val (.int s2), .val (.int s3), .val (.int (0 : Int32)), .unset, .unset, .unset, .unset, .unset, .unset, .unset] [(.int (1 : Int32))]))
              refine Runs.by (fun _ hr => XS.goto X87.here hx rfl (pc0 := 154) (pc' := 158) rfl (hb hby at_154) (by decide) (by decide) hr) ?_
              refine Runs.by (fun _ hr => XS.istore X87.here hx rfl (hb hby at_158) rfl (l' := #[.val (.long q0), .second, .val (.long q1), .second, .val (.int p2), .val (.int p3), .val (.int p4), .val (.long da), .second, .val (.long db), .second, .val (.int (1 : Int32)), .val (.int (1 : Int32)), .val (.ref b67), .val (.int (0 : Int32)), .val (.int s2), .val (.int s3), .val (.int (0 : Int32)), .val (.int (1 : Int32)), .unset, .unset, .unset, .unset, .unset, .unset]) rfl hr) ?_
              have zD2 : own_D q1 db = db := own_Dn (fun z => hc143 (own_lcz.mpr z))
              have nD2 : ¬ db = 0 := fun z => hc150 (own_lcz.mpr z)
              refine Runs.by (fun _ hr => XS.iload X87.here hx rfl (hb hby at_160) rfl  hr) ?_
              show Runs p e below _ (T87.setTop (mkF m 162 #[.val (.long q0), .second, .val (.long q1), .second, .val (.int p2), .val (.int p3), .val (.int p4), .val (.long da), .second, .val (.long db), .second, .val (.int (1 : Int32)), .val (.int (1 : Int32)), .val (.ref b67), .val (.int (0 : Int32)), .val (.int s2), .val (.int s3), .val (.int (0 : Int32)), .val (.int (1 : Int32)), .unset, .unset, .unset, .unset, .unset, .unset] [(.int (0 : Int32))]))
              have hc162 : (0 : Int32) = (0 : Int32) := (by decide)
              refine Runs.by (fun _ hr => XS.ifYes X87.here hx rfl (pc0 := 162) (pc' := 174) rfl (hb hby at_162) rfl ((if0 _ _).trans (teq hc162).1) (by decide) (by decide) hr) ?_
              refine Runs.by (fun _ hr => XS.iconst X87.here hx rfl (hb hby at_174) hr) ?_
              refine Runs.by (fun _ hr => XS.istore X87.here hx rfl (hb hby at_175) rfl (l' := #[.val (.long q0), .second, .val (.long q1), .second, .val (.int p2), .val (.int p3), .val (.int p4), .val (.long da), .second, .val (.long db), .second, .val (.int (1 : Int32)), .val (.int (1 : Int32)), .val (.ref b67), .val (.int (0 : Int32)), .val (.int s2), .val (.int s3), .val (.int (0 : Int32)), .val (.int (1 : Int32)), .val (.int (0 : Int32)), .unset, .unset, .unset, .unset, .unset]) rfl hr) ?_
              show Runs p e below _ (T87.setTop (mkF m 177 #[.val (.long q0), .second, .val (.long q1), .second, .val (.int p2), .val (.int p3), .val (.int p4), .val (.long da), .second, .val (.long db), .second, .val (.int (1 : Int32)), .val (.int (1 : Int32)), .val (.ref b67), .val (.int (0 : Int32)), .val (.int s2), .val (.int s3), .val (.int (0 : Int32)), .val (.int (1 : Int32)), .val (.int (0 : Int32)), .unset, .unset, .unset, .unset, .unset] []))
              refine Runs.by (fun _ hr => XS.iload X87.here hx rfl (hb hby at_177) rfl  hr) ?_
              have hc179 : (0 : Int32) = (0 : Int32) := (by decide)
              refine Runs.by (fun _ hr => XS.ifYes X87.here hx rfl (pc0 := 179) (pc' := 248) rfl (hb hby at_179) rfl ((if0 _ _).trans (teq hc179).1) (by decide) (by decide) hr) ?_
              refine Runs.by (fun _ hr => XS.iload X87.here hx rfl (hb hby at_248) rfl  hr) ?_
              show Runs p e below _ (T87.setTop (mkF m 250 #[.val (.long q0), .second, .val (.long q1), .second, .val (.int p2), .val (.int p3), .val (.int p4), .val (.long da), .second, .val (.long db), .second, .val (.int (1 : Int32)), .val (.int (1 : Int32)), .val (.ref b67), .val (.int (0 : Int32)), .val (.int s2), .val (.int s3), .val (.int (0 : Int32)), .val (.int (1 : Int32)), .val (.int (0 : Int32)), .unset, .unset, .unset, .unset, .unset] [(.int (0 : Int32))]))
              have hc250 : (0 : Int32) = (0 : Int32) := (by decide)
              refine Runs.by (fun _ hr => XS.ifYes X87.here hx rfl (pc0 := 250) (pc' := 258) rfl (hb hby at_250) rfl ((if0 _ _).trans (teq hc250).1) (by decide) (by decide) hr) ?_
              refine Runs.by (fun _ hr => XS.iload X87.here hx rfl (hb hby at_258) rfl  hr) ?_
              have hc260 : ¬ ((1 : Int32) = (0 : Int32)) := (by decide)
              refine Runs.by (fun _ hr => XS.ifNo X87.here hx rfl (hb hby at_260) rfl ((if0 _ _).trans (feq hc260).1) hr) ?_
              show Runs p e below _ (T87.setTop (mkF m 263 #[.val (.long q0), .second, .val (.long q1), .second, .val (.int p2), .val (.int p3), .val (.int p4), .val (.long da), .second, .val (.long db), .second, .val (.int (1 : Int32)), .val (.int (1 : Int32)), .val (.ref b67), .val (.int (0 : Int32)), .val (.int s2), .val (.int s3), .val (.int (0 : Int32)), .val (.int (1 : Int32)), .val (.int (0 : Int32)), .unset, .unset, .unset, .unset, .unset] []))
              refine Runs.by (fun _ hr => XS.iload X87.here hx rfl (hb hby at_263) rfl  hr) ?_
              have hc265 : ¬ ((1 : Int32) = (0 : Int32)) := (by decide)
              refine Runs.by (fun _ hr => XS.ifYes X87.here hx rfl (pc0 := 265) (pc' := 272) rfl (hb hby at_265) rfl ((if0 _ _).trans (feq hc265).2) (by decide) (by decide) hr) ?_
              refine Runs.by (fun _ hr => XS.iconst X87.here hx rfl (hb hby at_272) hr) ?_
              show Runs p e below _ (T87.setTop (mkF m 273 #[.val (.long q0), .second, .val (.long q1), .second, .val (.int p2), .val (.int p3), .val (.int p4), .val (.long da), .second, .val (.long db), .second, .val (.int (1 : Int32)), .val (.int (1 : Int32)), .val (.ref b67), .val (.int (0 : Int32)), .val (.int s2), .val (.int s3), .val (.int (0 : Int32)), .val (.int (1 : Int32)), .val (.int (0 : Int32)), .unset, .unset, .unset, .unset, .unset] [(.int (0 : Int32))]))
              refine Runs.by (fun _ hr => XS.istore X87.here hx rfl (hb hby at_273) rfl (l' := #[.val (.long q0), .second, .val (.long q1), .second, .val (.int p2), .val (.int p3), .val (.int p4), .val (.long da), .second, .val (.long db), .second, .val (.int (1 : Int32)), .val (.int (1 : Int32)), .val (.ref b67), .val (.int (0 : Int32)), .val (.int s2), .val (.int s3), .val (.int (0 : Int32)), .val (.int (1 : Int32)), .val (.int (0 : Int32)), .val (.int (0 : Int32)), .unset, .unset, .unset, .unset]) rfl hr) ?_
              refine Runs.by (fun _ hr => XS.iload X87.here hx rfl (hb hby at_275) rfl  hr) ?_
              have hc277 : (0 : Int32) = (0 : Int32) := (by decide)
              refine Runs.by (fun _ hr => XS.ifNo X87.here hx rfl (hb hby at_277) rfl ((if0 _ _).trans (teq hc277).2) hr) ?_
              show Runs p e below _ (T87.setTop (mkF m 280 #[.val (.long q0), .second, .val (.long q1), .second, .val (.int p2), .val (.int p3), .val (.int p4), .val (.long da), .second, .val (.long db), .second, .val (.int (1 : Int32)), .val (.int (1 : Int32)), .val (.ref b67), .val (.int (0 : Int32)), .val (.int s2), .val (.int s3), .val (.int (0 : Int32)), .val (.int (1 : Int32)), .val (.int (0 : Int32)), .val (.int (0 : Int32)), .unset, .unset, .unset, .unset] []))
              refine Runs.by (fun _ hr => XS.iload X87.here hx rfl (hb hby at_280) rfl  hr) ?_
              refine Runs.by (fun _ hr => XS.iload X87.here hx rfl (hb hby at_282) rfl  hr) ?_
              have hc284 : s2 = (0 : Int32) := hs2
              refine Runs.by (fun _ hr => XS.icmpNo X87.here hx rfl (hb hby at_284) rfl (teq hc284).2 hr) ?_
              show Runs p e below _ (T87.setTop (mkF m 287 #[.val (.long q0), .second, .val (.long q1), .second, .val (.int p2), .val (.int p3), .val (.int p4), .val (.long da), .second, .val (.long db), .second, .val (.int (1 : Int32)), .val (.int (1 : Int32)), .val (.ref b67), .val (.int (0 : Int32)), .val (.int s2), .val (.int s3), .val (.int (0 : Int32)), .val (.int (1 : Int32)), .val (.int (0 : Int32)), .val (.int (0 : Int32)), .unset, .unset, .unset, .unset] []))
              refine Runs.by (fun _ hr => XS.iload X87.here hx rfl (hb hby at_287) rfl  hr) ?_
              refine Runs.by (fun _ hr => XS.iload X87.here hx rfl (hb hby at_289) rfl  hr) ?_
              have hc291 : s3 = (0 : Int32) := hs3
              refine Runs.by (fun _ hr => XS.icmpNo X87.here hx rfl (hb hby at_291) rfl (teq hc291).2 hr) ?_
              show Runs p e below _ (T87.setTop (mkF m 294 #[.val (.long q0), .second, .val (.long q1), .second, .val (.int p2), .val (.int p3), .val (.int p4), .val (.long da), .second, .val (.long db), .second, .val (.int (1 : Int32)), .val (.int (1 : Int32)), .val (.ref b67), .val (.int (0 : Int32)), .val (.int s2), .val (.int s3), .val (.int (0 : Int32)), .val (.int (1 : Int32)), .val (.int (0 : Int32)), .val (.int (0 : Int32)), .unset, .unset, .unset, .unset] []))
              refine Runs.by (fun _ hr => XS.iconst X87.here hx rfl (hb hby at_294) hr) ?_
              refine Runs.by (fun _ hr => XS.goto X87.here hx rfl (pc0 := 295) (pc' := 299) rfl (hb hby at_295) (by decide) (by decide) hr) ?_
              show Runs p e below _ (T87.setTop (mkF m 299 #[.val (.long q0), .second, .val (.long q1), .second, .val (.int p2), .val (.int p3), .val (.int p4), .val (.long da), .second, .val (.long db), .second, .val (.int (1 : Int32)), .val (.int (1 : Int32)), .val (.ref b67), .val (.int (0 : Int32)), .val (.int s2), .val (.int s3), .val (.int (0 : Int32)), .val (.int (1 : Int32)), .val (.int (0 : Int32)), .val (.int (0 : Int32)), .unset, .unset, .unset, .unset] [(.int (1 : Int32))]))
              refine Runs.ret X87 hx hrt hlk (Or.inl ⟨rfl, by simp, _, rfl⟩) (by rfl) (hb hby at_299) (by decide) (by decide) ?_
              exact ⟨rfl, N87⟩
        · -- pc 130: not (lcmpW da (0 : Int64)) = (0 : Int32)
          refine Runs.by (fun _ hr => XS.ifNo X87.here hx rfl (hb hby at_130) rfl ((if0 _ _).trans (feq hc130).1) hr) ?_
          refine Runs.by (fun _ hr => XS.iconst X87.here hx rfl (hb hby at_133) hr) ?_
          refine Runs.by (fun _ hr => XS.goto X87.here hx rfl (pc0 := 134) (pc' := 138) rfl (hb hby at_134) (by decide) (by decide) hr) ?_
          show Runs p e below _ (T87.setTop (mkF m 138 #[.val (.long q0), .second, .val (.long q1), .second, .val (.int p2), .val (.int p3), .val (.int p4), .val (.long da), .second, .val (.long db), .second, .val (.int (1 : Int32)), .val (.int (1 : Int32)), .val (.ref b67), .val (.int (0 : Int32)), .val (.int s2), .val (.int s3), .unset, .unset, .unset, .unset, .unset, .unset, .unset, .unset] [(.int (1 : Int32))]))
          refine Runs.by (fun _ hr => XS.istore X87.here hx rfl (hb hby at_138) rfl (l' := #[.val (.long q0), .second, .val (.long q1), .second, .val (.int p2), .val (.int p3), .val (.int p4), .val (.long da), .second, .val (.long db), .second, .val (.int (1 : Int32)), .val (.int (1 : Int32)), .val (.ref b67), .val (.int (0 : Int32)), .val (.int s2), .val (.int s3), .val (.int (1 : Int32)), .unset, .unset, .unset, .unset, .unset, .unset, .unset]) rfl hr) ?_
          have zD1 : own_D q0 da = da := own_Dn (fun z => hc123 (own_lcz.mpr z))
          have nD1 : ¬ da = 0 := fun z => hc130 (own_lcz.mpr z)
          refine Runs.by (fun _ hr => XS.lloadN X87.here hx rfl (hb hby at_140) rfl  hr) ?_
          refine Runs.by (fun _ hr => XS.lconst X87.here hx rfl (hb hby at_141) hr) ?_
          show Runs p e below _ (T87.setTop (mkF m 142 #[.val (.long q0), .second, .val (.long q1), .second, .val (.int p2), .val (.int p3), .val (.int p4), .val (.long da), .second, .val (.long db), .second, .val (.int (1 : Int32)), .val (.int (1 : Int32)), .val (.ref b67), .val (.int (0 : Int32)), .val (.int s2), .val (.int s3), .val (.int (1 : Int32)), .unset, .unset, .unset, .unset, .unset, .unset, .unset] [(.long (0 : Int64)), (.long q1)]))
          refine Runs.by (fun _ hr => XS.lcmp X87.here hx rfl (hb hby at_142) rfl hr) ?_
          by_cases hc143 : (lcmpW q1 (0 : Int64)) = (0 : Int32)
          · -- pc 143: (lcmpW q1 (0 : Int64)) = (0 : Int32)
            refine Runs.by (fun _ hr => XS.ifYes X87.here hx rfl (pc0 := 143) (pc' := 157) rfl (hb hby at_143) rfl ((if0 _ _).trans (teq hc143).1) (by decide) (by decide) hr) ?_
            refine Runs.by (fun _ hr => XS.iconst X87.here hx rfl (hb hby at_157) hr) ?_
            show Runs p e below _ (T87.setTop (mkF m 158 #[.val (.long q0), .second, .val (.long q1), .second, .val (.int p2), .val (.int p3), .val (.int p4), .val (.long da), .second, .val (.long db), .second, .val (.int (1 : Int32)), .val (.int (1 : Int32)), .val (.ref b67), .val (.int (0 : Int32)), .val (.int s2), .val (.int s3), .val (.int (1 : Int32)), .unset, .unset, .unset, .unset, .unset, .unset, .unset] [(.int (0 : Int32))]))
            refine Runs.by (fun _ hr => XS.istore X87.here hx rfl (hb hby at_158) rfl (l' := #[.val (.long q0), .second, .val (.long q1), .second, .val (.int p2), .val (.int p3), .val (.int p4), .val (.long da), .second, .val (.long db), .second, .val (.int (1 : Int32)), .val (.int (1 : Int32)), .val (.ref b67), .val (.int (0 : Int32)), .val (.int s2), .val (.int s3), .val (.int (1 : Int32)), .val (.int (0 : Int32)), .unset, .unset, .unset, .unset, .unset, .unset]) rfl hr) ?_
            have zD2 : own_D q1 db = 0 := own_Dz1 (own_lcz.mp hc143)
            refine Runs.by (fun _ hr => XS.iload X87.here hx rfl (hb hby at_160) rfl  hr) ?_
            have hc162 : ¬ ((1 : Int32) = (0 : Int32)) := (by decide)
            refine Runs.by (fun _ hr => XS.ifNo X87.here hx rfl (hb hby at_162) rfl ((if0 _ _).trans (feq hc162).1) hr) ?_
            show Runs p e below _ (T87.setTop (mkF m 165 #[.val (.long q0), .second, .val (.long q1), .second, .val (.int p2), .val (.int p3), .val (.int p4), .val (.long da), .second, .val (.long db), .second, .val (.int (1 : Int32)), .val (.int (1 : Int32)), .val (.ref b67), .val (.int (0 : Int32)), .val (.int s2), .val (.int s3), .val (.int (1 : Int32)), .val (.int (0 : Int32)), .unset, .unset, .unset, .unset, .unset, .unset] []))
            refine Runs.by (fun _ hr => XS.iload X87.here hx rfl (hb hby at_165) rfl  hr) ?_
            have hc167 : ¬ ((1 : Int32) = (0 : Int32)) := (by decide)
            refine Runs.by (fun _ hr => XS.ifYes X87.here hx rfl (pc0 := 167) (pc' := 174) rfl (hb hby at_167) rfl ((if0 _ _).trans (feq hc167).2) (by decide) (by decide) hr) ?_
            refine Runs.by (fun _ hr => XS.iconst X87.here hx rfl (hb hby at_174) hr) ?_
            show Runs p e below _ (T87.setTop (mkF m 175 #[.val (.long q0), .second, .val (.long q1), .second, .val (.int p2), .val (.int p3), .val (.int p4), .val (.long da), .second, .val (.long db), .second, .val (.int (1 : Int32)), .val (.int (1 : Int32)), .val (.ref b67), .val (.int (0 : Int32)), .val (.int s2), .val (.int s3), .val (.int (1 : Int32)), .val (.int (0 : Int32)), .unset, .unset, .unset, .unset, .unset, .unset] [(.int (0 : Int32))]))
            refine Runs.by (fun _ hr => XS.istore X87.here hx rfl (hb hby at_175) rfl (l' := #[.val (.long q0), .second, .val (.long q1), .second, .val (.int p2), .val (.int p3), .val (.int p4), .val (.long da), .second, .val (.long db), .second, .val (.int (1 : Int32)), .val (.int (1 : Int32)), .val (.ref b67), .val (.int (0 : Int32)), .val (.int s2), .val (.int s3), .val (.int (1 : Int32)), .val (.int (0 : Int32)), .val (.int (0 : Int32)), .unset, .unset, .unset, .unset, .unset]) rfl hr) ?_
            refine Runs.by (fun _ hr => XS.iload X87.here hx rfl (hb hby at_177) rfl  hr) ?_
            have hc179 : ¬ ((1 : Int32) = (0 : Int32)) := (by decide)
            refine Runs.by (fun _ hr => XS.ifNo X87.here hx rfl (hb hby at_179) rfl ((if0 _ _).trans (feq hc179).1) hr) ?_
            show Runs p e below _ (T87.setTop (mkF m 182 #[.val (.long q0), .second, .val (.long q1), .second, .val (.int p2), .val (.int p3), .val (.int p4), .val (.long da), .second, .val (.long db), .second, .val (.int (1 : Int32)), .val (.int (1 : Int32)), .val (.ref b67), .val (.int (0 : Int32)), .val (.int s2), .val (.int s3), .val (.int (1 : Int32)), .val (.int (0 : Int32)), .val (.int (0 : Int32)), .unset, .unset, .unset, .unset, .unset] []))
            refine Runs.by (fun _ hr => XS.iload X87.here hx rfl (hb hby at_182) rfl  hr) ?_
            have hc184 : (0 : Int32) = (0 : Int32) := (by decide)
            refine Runs.by (fun _ hr => XS.ifYes X87.here hx rfl (pc0 := 184) (pc' := 248) rfl (hb hby at_184) rfl ((if0 _ _).trans (teq hc184).1) (by decide) (by decide) hr) ?_
            refine Runs.by (fun _ hr => XS.iload X87.here hx rfl (hb hby at_248) rfl  hr) ?_
            show Runs p e below _ (T87.setTop (mkF m 250 #[.val (.long q0), .second, .val (.long q1), .second, .val (.int p2), .val (.int p3), .val (.int p4), .val (.long da), .second, .val (.long db), .second, .val (.int (1 : Int32)), .val (.int (1 : Int32)), .val (.ref b67), .val (.int (0 : Int32)), .val (.int s2), .val (.int s3), .val (.int (1 : Int32)), .val (.int (0 : Int32)), .val (.int (0 : Int32)), .unset, .unset, .unset, .unset, .unset] [(.int (1 : Int32))]))
            have hc250 : ¬ ((1 : Int32) = (0 : Int32)) := (by decide)
            refine Runs.by (fun _ hr => XS.ifNo X87.here hx rfl (hb hby at_250) rfl ((if0 _ _).trans (feq hc250).1) hr) ?_
            refine Runs.by (fun _ hr => XS.iload X87.here hx rfl (hb hby at_253) rfl  hr) ?_
            have hc255 : ¬ ((1 : Int32) = (0 : Int32)) := (by decide)
            refine Runs.by (fun _ hr => XS.ifNo X87.here hx rfl (hb hby at_255) rfl ((if0 _ _).trans (feq hc255).1) hr) ?_
            show Runs p e below _ (T87.setTop (mkF m 258 #[.val (.long q0), .second, .val (.long q1), .second, .val (.int p2), .val (.int p3), .val (.int p4), .val (.long da), .second, .val (.long db), .second, .val (.int (1 : Int32)), .val (.int (1 : Int32)), .val (.ref b67), .val (.int (0 : Int32)), .val (.int s2), .val (.int s3), .val (.int (1 : Int32)), .val (.int (0 : Int32)), .val (.int (0 : Int32)), .unset, .unset, .unset, .unset, .unset] []))
            refine Runs.by (fun _ hr => XS.iload X87.here hx rfl (hb hby at_258) rfl  hr) ?_
            have hc260 : (0 : Int32) = (0 : Int32) := (by decide)
            refine Runs.by (fun _ hr => XS.ifYes X87.here hx rfl (pc0 := 260) (pc' := 272) rfl (hb hby at_260) rfl ((if0 _ _).trans (teq hc260).1) (by decide) (by decide) hr) ?_
            refine Runs.by (fun _ hr => XS.iconst X87.here hx rfl (hb hby at_272) hr) ?_
            show Runs p e below _ (T87.setTop (mkF m 273 #[.val (.long q0), .second, .val (.long q1), .second, .val (.int p2), .val (.int p3), .val (.int p4), .val (.long da), .second, .val (.long db), .second, .val (.int (1 : Int32)), .val (.int (1 : Int32)), .val (.ref b67), .val (.int (0 : Int32)), .val (.int s2), .val (.int s3), .val (.int (1 : Int32)), .val (.int (0 : Int32)), .val (.int (0 : Int32)), .unset, .unset, .unset, .unset, .unset] [(.int (0 : Int32))]))
            refine Runs.by (fun _ hr => XS.istore X87.here hx rfl (hb hby at_273) rfl (l' := #[.val (.long q0), .second, .val (.long q1), .second, .val (.int p2), .val (.int p3), .val (.int p4), .val (.long da), .second, .val (.long db), .second, .val (.int (1 : Int32)), .val (.int (1 : Int32)), .val (.ref b67), .val (.int (0 : Int32)), .val (.int s2), .val (.int s3), .val (.int (1 : Int32)), .val (.int (0 : Int32)), .val (.int (0 : Int32)), .val (.int (0 : Int32)), .unset, .unset, .unset, .unset]) rfl hr) ?_
            refine Runs.by (fun _ hr => XS.iload X87.here hx rfl (hb hby at_275) rfl  hr) ?_
            have hc277 : (0 : Int32) = (0 : Int32) := (by decide)
            refine Runs.by (fun _ hr => XS.ifNo X87.here hx rfl (hb hby at_277) rfl ((if0 _ _).trans (teq hc277).2) hr) ?_
            show Runs p e below _ (T87.setTop (mkF m 280 #[.val (.long q0), .second, .val (.long q1), .second, .val (.int p2), .val (.int p3), .val (.int p4), .val (.long da), .second, .val (.long db), .second, .val (.int (1 : Int32)), .val (.int (1 : Int32)), .val (.ref b67), .val (.int (0 : Int32)), .val (.int s2), .val (.int s3), .val (.int (1 : Int32)), .val (.int (0 : Int32)), .val (.int (0 : Int32)), .val (.int (0 : Int32)), .unset, .unset, .unset, .unset] []))
            refine Runs.by (fun _ hr => XS.iload X87.here hx rfl (hb hby at_280) rfl  hr) ?_
            refine Runs.by (fun _ hr => XS.iload X87.here hx rfl (hb hby at_282) rfl  hr) ?_
            have hc284 : s2 = (0 : Int32) := hs2
            refine Runs.by (fun _ hr => XS.icmpNo X87.here hx rfl (hb hby at_284) rfl (teq hc284).2 hr) ?_
            show Runs p e below _ (T87.setTop (mkF m 287 #[.val (.long q0), .second, .val (.long q1), .second, .val (.int p2), .val (.int p3), .val (.int p4), .val (.long da), .second, .val (.long db), .second, .val (.int (1 : Int32)), .val (.int (1 : Int32)), .val (.ref b67), .val (.int (0 : Int32)), .val (.int s2), .val (.int s3), .val (.int (1 : Int32)), .val (.int (0 : Int32)), .val (.int (0 : Int32)), .val (.int (0 : Int32)), .unset, .unset, .unset, .unset] []))
            refine Runs.by (fun _ hr => XS.iload X87.here hx rfl (hb hby at_287) rfl  hr) ?_
            refine Runs.by (fun _ hr => XS.iload X87.here hx rfl (hb hby at_289) rfl  hr) ?_
            have hc291 : s3 = (0 : Int32) := hs3
            refine Runs.by (fun _ hr => XS.icmpNo X87.here hx rfl (hb hby at_291) rfl (teq hc291).2 hr) ?_
            show Runs p e below _ (T87.setTop (mkF m 294 #[.val (.long q0), .second, .val (.long q1), .second, .val (.int p2), .val (.int p3), .val (.int p4), .val (.long da), .second, .val (.long db), .second, .val (.int (1 : Int32)), .val (.int (1 : Int32)), .val (.ref b67), .val (.int (0 : Int32)), .val (.int s2), .val (.int s3), .val (.int (1 : Int32)), .val (.int (0 : Int32)), .val (.int (0 : Int32)), .val (.int (0 : Int32)), .unset, .unset, .unset, .unset] []))
            refine Runs.by (fun _ hr => XS.iconst X87.here hx rfl (hb hby at_294) hr) ?_
            refine Runs.by (fun _ hr => XS.goto X87.here hx rfl (pc0 := 295) (pc' := 299) rfl (hb hby at_295) (by decide) (by decide) hr) ?_
            show Runs p e below _ (T87.setTop (mkF m 299 #[.val (.long q0), .second, .val (.long q1), .second, .val (.int p2), .val (.int p3), .val (.int p4), .val (.long da), .second, .val (.long db), .second, .val (.int (1 : Int32)), .val (.int (1 : Int32)), .val (.ref b67), .val (.int (0 : Int32)), .val (.int s2), .val (.int s3), .val (.int (1 : Int32)), .val (.int (0 : Int32)), .val (.int (0 : Int32)), .val (.int (0 : Int32)), .unset, .unset, .unset, .unset] [(.int (1 : Int32))]))
            refine Runs.ret X87 hx hrt hlk (Or.inl ⟨rfl, by simp, _, rfl⟩) (by rfl) (hb hby at_299) (by decide) (by decide) ?_
            exact ⟨rfl, N87⟩
          · -- pc 143: not (lcmpW q1 (0 : Int64)) = (0 : Int32)
            refine Runs.by (fun _ hr => XS.ifNo X87.here hx rfl (hb hby at_143) rfl ((if0 _ _).trans (feq hc143).1) hr) ?_
            refine Runs.by (fun _ hr => XS.lload X87.here hx rfl (hb hby at_146) rfl  hr) ?_
            show Runs p e below _ (T87.setTop (mkF m 148 #[.val (.long q0), .second, .val (.long q1), .second, .val (.int p2), .val (.int p3), .val (.int p4), .val (.long da), .second, .val (.long db), .second, .val (.int (1 : Int32)), .val (.int (1 : Int32)), .val (.ref b67), .val (.int (0 : Int32)), .val (.int s2), .val (.int s3), .val (.int (1 : Int32)), .unset, .unset, .unset, .unset, .unset, .unset, .unset] [(.long db)]))
            refine Runs.by (fun _ hr => XS.lconst X87.here hx rfl (hb hby at_148) hr) ?_
            refine Runs.by (fun _ hr => XS.lcmp X87.here hx rfl (hb hby at_149) rfl hr) ?_
            by_cases hc150 : (lcmpW db (0 : Int64)) = (0 : Int32)
            · -- pc 150: (lcmpW db (0 : Int64)) = (0 : Int32)
              refine Runs.by (fun _ hr => XS.ifYes X87.here hx rfl (pc0 := 150) (pc' := 157) rfl (hb hby at_150) rfl ((if0 _ _).trans (teq hc150).1) (by decide) (by decide) hr) ?_
              show Runs p e below _ (T87.setTop (mkF m 157 #[.val (.long q0), .second, .val (.long q1), .second, .val (.int p2), .val (.int p3), .val (.int p4), .val (.long da), .second, .val (.long db), .second, .val (.int (1 : Int32)), .val (.int (1 : Int32)), .val (.ref b67), .val (.int (0 : Int32)), .val (.int s2), .val (.int s3), .val (.int (1 : Int32)), .unset, .unset, .unset, .unset, .unset, .unset, .unset] []))
              refine Runs.by (fun _ hr => XS.iconst X87.here hx rfl (hb hby at_157) hr) ?_
              refine Runs.by (fun _ hr => XS.istore X87.here hx rfl (hb hby at_158) rfl (l' := #[.val (.long q0), .second, .val (.long q1), .second, .val (.int p2), .val (.int p3), .val (.int p4), .val (.long da), .second, .val (.long db), .second, .val (.int (1 : Int32)), .val (.int (1 : Int32)), .val (.ref b67), .val (.int (0 : Int32)), .val (.int s2), .val (.int s3), .val (.int (1 : Int32)), .val (.int (0 : Int32)), .unset, .unset, .unset, .unset, .unset, .unset]) rfl hr) ?_
              have zD2 : own_D q1 db = 0 := own_Dz2 (own_lcz.mp hc150)
              refine Runs.by (fun _ hr => XS.iload X87.here hx rfl (hb hby at_160) rfl  hr) ?_
              show Runs p e below _ (T87.setTop (mkF m 162 #[.val (.long q0), .second, .val (.long q1), .second, .val (.int p2), .val (.int p3), .val (.int p4), .val (.long da), .second, .val (.long db), .second, .val (.int (1 : Int32)), .val (.int (1 : Int32)), .val (.ref b67), .val (.int (0 : Int32)), .val (.int s2), .val (.int s3), .val (.int (1 : Int32)), .val (.int (0 : Int32)), .unset, .unset, .unset, .unset, .unset, .unset] [(.int (1 : Int32))]))
              have hc162 : ¬ ((1 : Int32) = (0 : Int32)) := (by decide)
              refine Runs.by (fun _ hr => XS.ifNo X87.here hx rfl (hb hby at_162) rfl ((if0 _ _).trans (feq hc162).1) hr) ?_
              refine Runs.by (fun _ hr => XS.iload X87.here hx rfl (hb hby at_165) rfl  hr) ?_
              have hc167 : ¬ ((1 : Int32) = (0 : Int32)) := (by decide)
              refine Runs.by (fun _ hr => XS.ifYes X87.here hx rfl (pc0 := 167) (pc' := 174) rfl (hb hby at_167) rfl ((if0 _ _).trans (feq hc167).2) (by decide) (by decide) hr) ?_
              show Runs p e below _ (T87.setTop (mkF m 174 #[.val (.long q0), .second, .val (.long q1), .second, .val (.int p2), .val (.int p3), .val (.int p4), .val (.long da), .second, .val (.long db), .second, .val (.int (1 : Int32)), .val (.int (1 : Int32)), .val (.ref b67), .val (.int (0 : Int32)), .val (.int s2), .val (.int s3), .val (.int (1 : Int32)), .val (.int (0 : Int32)), .unset, .unset, .unset, .unset, .unset, .unset] []))
              refine Runs.by (fun _ hr => XS.iconst X87.here hx rfl (hb hby at_174) hr) ?_
              refine Runs.by (fun _ hr => XS.istore X87.here hx rfl (hb hby at_175) rfl (l' := #[.val (.long q0), .second, .val (.long q1), .second, .val (.int p2), .val (.int p3), .val (.int p4), .val (.long da), .second, .val (.long db), .second, .val (.int (1 : Int32)), .val (.int (1 : Int32)), .val (.ref b67), .val (.int (0 : Int32)), .val (.int s2), .val (.int s3), .val (.int (1 : Int32)), .val (.int (0 : Int32)), .val (.int (0 : Int32)), .unset, .unset, .unset, .unset, .unset]) rfl hr) ?_
              refine Runs.by (fun _ hr => XS.iload X87.here hx rfl (hb hby at_177) rfl  hr) ?_
              show Runs p e below _ (T87.setTop (mkF m 179 #[.val (.long q0), .second, .val (.long q1), .second, .val (.int p2), .val (.int p3), .val (.int p4), .val (.long da), .second, .val (.long db), .second, .val (.int (1 : Int32)), .val (.int (1 : Int32)), .val (.ref b67), .val (.int (0 : Int32)), .val (.int s2), .val (.int s3), .val (.int (1 : Int32)), .val (.int (0 : Int32)), .val (.int (0 : Int32)), .unset, .unset, .unset, .unset, .unset] [(.int (1 : Int32))]))
              have hc179 : ¬ ((1 : Int32) = (0 : Int32)) := (by decide)
              refine Runs.by (fun _ hr => XS.ifNo X87.here hx rfl (hb hby at_179) rfl ((if0 _ _).trans (feq hc179).1) hr) ?_
              refine Runs.by (fun _ hr => XS.iload X87.here hx rfl (hb hby at_182) rfl  hr) ?_
              have hc184 : (0 : Int32) = (0 : Int32) := (by decide)
              refine Runs.by (fun _ hr => XS.ifYes X87.here hx rfl (pc0 := 184) (pc' := 248) rfl (hb hby at_184) rfl ((if0 _ _).trans (teq hc184).1) (by decide) (by decide) hr) ?_
              show Runs p e below _ (T87.setTop (mkF m 248 #[.val (.long q0), .second, .val (.long q1), .second, .val (.int p2), .val (.int p3), .val (.int p4), .val (.long da), .second, .val (.long db), .second, .val (.int (1 : Int32)), .val (.int (1 : Int32)), .val (.ref b67), .val (.int (0 : Int32)), .val (.int s2), .val (.int s3), .val (.int (1 : Int32)), .val (.int (0 : Int32)), .val (.int (0 : Int32)), .unset, .unset, .unset, .unset, .unset] []))
              refine Runs.by (fun _ hr => XS.iload X87.here hx rfl (hb hby at_248) rfl  hr) ?_
              have hc250 : ¬ ((1 : Int32) = (0 : Int32)) := (by decide)
              refine Runs.by (fun _ hr => XS.ifNo X87.here hx rfl (hb hby at_250) rfl ((if0 _ _).trans (feq hc250).1) hr) ?_
              refine Runs.by (fun _ hr => XS.iload X87.here hx rfl (hb hby at_253) rfl  hr) ?_
              show Runs p e below _ (T87.setTop (mkF m 255 #[.val (.long q0), .second, .val (.long q1), .second, .val (.int p2), .val (.int p3), .val (.int p4), .val (.long da), .second, .val (.long db), .second, .val (.int (1 : Int32)), .val (.int (1 : Int32)), .val (.ref b67), .val (.int (0 : Int32)), .val (.int s2), .val (.int s3), .val (.int (1 : Int32)), .val (.int (0 : Int32)), .val (.int (0 : Int32)), .unset, .unset, .unset, .unset, .unset] [(.int (1 : Int32))]))
              have hc255 : ¬ ((1 : Int32) = (0 : Int32)) := (by decide)
              refine Runs.by (fun _ hr => XS.ifNo X87.here hx rfl (hb hby at_255) rfl ((if0 _ _).trans (feq hc255).1) hr) ?_
              refine Runs.by (fun _ hr => XS.iload X87.here hx rfl (hb hby at_258) rfl  hr) ?_
              have hc260 : (0 : Int32) = (0 : Int32) := (by decide)
              refine Runs.by (fun _ hr => XS.ifYes X87.here hx rfl (pc0 := 260) (pc' := 272) rfl (hb hby at_260) rfl ((if0 _ _).trans (teq hc260).1) (by decide) (by decide) hr) ?_
              show Runs p e below _ (T87.setTop (mkF m 272 #[.val (.long q0), .second, .val (.long q1), .second, .val (.int p2), .val (.int p3), .val (.int p4), .val (.long da), .second, .val (.long db), .second, .val (.int (1 : Int32)), .val (.int (1 : Int32)), .val (.ref b67), .val (.int (0 : Int32)), .val (.int s2), .val (.int s3), .val (.int (1 : Int32)), .val (.int (0 : Int32)), .val (.int (0 : Int32)), .unset, .unset, .unset, .unset, .unset] []))
              refine Runs.by (fun _ hr => XS.iconst X87.here hx rfl (hb hby at_272) hr) ?_
              refine Runs.by (fun _ hr => XS.istore X87.here hx rfl (hb hby at_273) rfl (l' := #[.val (.long q0), .second, .val (.long q1), .second, .val (.int p2), .val (.int p3), .val (.int p4), .val (.long da), .second, .val (.long db), .second, .val (.int (1 : Int32)), .val (.int (1 : Int32)), .val (.ref b67), .val (.int (0 : Int32)), .val (.int s2), .val (.int s3), .val (.int (1 : Int32)), .val (.int (0 : Int32)), .val (.int (0 : Int32)), .val (.int (0 : Int32)), .unset, .unset, .unset, .unset]) rfl hr) ?_
              refine Runs.by (fun _ hr => XS.iload X87.here hx rfl (hb hby at_275) rfl  hr) ?_
              show Runs p e below _ (T87.setTop (mkF m 277 #[.val (.long q0), .second, .val (.long q1), .second, .val (.int p2), .val (.int p3), .val (.int p4), .val (.long da), .second, .val (.long db), .second, .val (.int (1 : Int32)), .val (.int (1 : Int32)), .val (.ref b67), .val (.int (0 : Int32)), .val (.int s2), .val (.int s3), .val (.int (1 : Int32)), .val (.int (0 : Int32)), .val (.int (0 : Int32)), .val (.int (0 : Int32)), .unset, .unset, .unset, .unset] [(.int (0 : Int32))]))
              have hc277 : (0 : Int32) = (0 : Int32) := (by decide)
              refine Runs.by (fun _ hr => XS.ifNo X87.here hx rfl (hb hby at_277) rfl ((if0 _ _).trans (teq hc277).2) hr) ?_
              refine Runs.by (fun _ hr => XS.iload X87.here hx rfl (hb hby at_280) rfl  hr) ?_
              refine Runs.by (fun _ hr => XS.iload X87.here hx rfl (hb hby at_282) rfl  hr) ?_
              show Runs p e below _ (T87.setTop (mkF m 284 #[.val (.long q0), .second, .val (.long q1), .second, .val (.int p2), .val (.int p3), .val (.int p4), .val (.long da), .second, .val (.long db), .second, .val (.int (1 : Int32)), .val (.int (1 : Int32)), .val (.ref b67), .val (.int (0 : Int32)), .val (.int s2), .val (.int s3), .val (.int (1 : Int32)), .val (.int (0 : Int32)), .val (.int (0 : Int32)), .val (.int (0 : Int32)), .unset, .unset, .unset, .unset] [(.int (0 : Int32)), (.int s2)]))
              have hc284 : s2 = (0 : Int32) := hs2
              refine Runs.by (fun _ hr => XS.icmpNo X87.here hx rfl (hb hby at_284) rfl (teq hc284).2 hr) ?_
              refine Runs.by (fun _ hr => XS.iload X87.here hx rfl (hb hby at_287) rfl  hr) ?_
              refine Runs.by (fun _ hr => XS.iload X87.here hx rfl (hb hby at_289) rfl  hr) ?_
              show Runs p e below _ (T87.setTop (mkF m 291 #[.val (.long q0), .second, .val (.long q1), .second, .val (.int p2), .val (.int p3), .val (.int p4), .val (.long da), .second, .val (.long db), .second, .val (.int (1 : Int32)), .val (.int (1 : Int32)), .val (.ref b67), .val (.int (0 : Int32)), .val (.int s2), .val (.int s3), .val (.int (1 : Int32)), .val (.int (0 : Int32)), .val (.int (0 : Int32)), .val (.int (0 : Int32)), .unset, .unset, .unset, .unset] [(.int (0 : Int32)), (.int s3)]))
              have hc291 : s3 = (0 : Int32) := hs3
              refine Runs.by (fun _ hr => XS.icmpNo X87.here hx rfl (hb hby at_291) rfl (teq hc291).2 hr) ?_
              refine Runs.by (fun _ hr => XS.iconst X87.here hx rfl (hb hby at_294) hr) ?_
              refine Runs.by (fun _ hr => XS.goto X87.here hx rfl (pc0 := 295) (pc' := 299) rfl (hb hby at_295) (by decide) (by decide) hr) ?_
              show Runs p e below _ (T87.setTop (mkF m 299 #[.val (.long q0), .second, .val (.long q1), .second, .val (.int p2), .val (.int p3), .val (.int p4), .val (.long da), .second, .val (.long db), .second, .val (.int (1 : Int32)), .val (.int (1 : Int32)), .val (.ref b67), .val (.int (0 : Int32)), .val (.int s2), .val (.int s3), .val (.int (1 : Int32)), .val (.int (0 : Int32)), .val (.int (0 : Int32)), .val (.int (0 : Int32)), .unset, .unset, .unset, .unset] [(.int (1 : Int32))]))
              refine Runs.ret X87 hx hrt hlk (Or.inl ⟨rfl, by simp, _, rfl⟩) (by rfl) (hb hby at_299) (by decide) (by decide) ?_
              exact ⟨rfl, N87⟩
            · -- pc 150: not (lcmpW db (0 : Int64)) = (0 : Int32)
              refine Runs.by (fun _ hr => XS.ifNo X87.here hx rfl (hb hby at_150) rfl ((if0 _ _).trans (feq hc150).1) hr) ?_
              show Runs p e below _ (T87.setTop (mkF m 153 #[.val (.long q0), .second, .val (.long q1), .second, .val (.int p2), .val (.int p3), .val (.int p4), .val (.long da), .second, .val (.long db), .second, .val (.int (1 : Int32)), .val (.int (1 : Int32)), .val (.ref b67), .val (.int (0 : Int32)), .val (.int s2), .val (.int s3), .val (.int (1 : Int32)), .unset, .unset, .unset, .unset, .unset, .unset, .unset] []))
              refine Runs.by (fun _ hr => XS.iconst X87.here hx rfl (hb hby at_153) hr) ?_
              refine Runs.by (fun _ hr => XS.goto X87.here hx rfl (pc0 := 154) (pc' := 158) rfl (hb hby at_154) (by decide) (by decide) hr) ?_
              refine Runs.by (fun _ hr => XS.istore X87.here hx rfl (hb hby at_158) rfl (l' := #[.val (.long q0), .second, .val (.long q1), .second, .val (.int p2), .val (.int p3), .val (.int p4), .val (.long da), .second, .val (.long db), .second, .val (.int (1 : Int32)), .val (.int (1 : Int32)), .val (.ref b67), .val (.int (0 : Int32)), .val (.int s2), .val (.int s3), .val (.int (1 : Int32)), .val (.int (1 : Int32)), .unset, .unset, .unset, .unset, .unset, .unset]) rfl hr) ?_
              have zD2 : own_D q1 db = db := own_Dn (fun z => hc143 (own_lcz.mpr z))
              have nD2 : ¬ db = 0 := fun z => hc150 (own_lcz.mpr z)
              show Runs p e below _ (T87.setTop (mkF m 160 #[.val (.long q0), .second, .val (.long q1), .second, .val (.int p2), .val (.int p3), .val (.int p4), .val (.long da), .second, .val (.long db), .second, .val (.int (1 : Int32)), .val (.int (1 : Int32)), .val (.ref b67), .val (.int (0 : Int32)), .val (.int s2), .val (.int s3), .val (.int (1 : Int32)), .val (.int (1 : Int32)), .unset, .unset, .unset, .unset, .unset, .unset] []))
              refine Runs.by (fun _ hr => XS.iload X87.here hx rfl (hb hby at_160) rfl  hr) ?_
              have hc162 : ¬ ((1 : Int32) = (0 : Int32)) := (by decide)
              refine Runs.by (fun _ hr => XS.ifNo X87.here hx rfl (hb hby at_162) rfl ((if0 _ _).trans (feq hc162).1) hr) ?_
              refine Runs.by (fun _ hr => XS.iload X87.here hx rfl (hb hby at_165) rfl  hr) ?_
              show Runs p e below _ (T87.setTop (mkF m 167 #[.val (.long q0), .second, .val (.long q1), .second, .val (.int p2), .val (.int p3), .val (.int p4), .val (.long da), .second, .val (.long db), .second, .val (.int (1 : Int32)), .val (.int (1 : Int32)), .val (.ref b67), .val (.int (0 : Int32)), .val (.int s2), .val (.int s3), .val (.int (1 : Int32)), .val (.int (1 : Int32)), .unset, .unset, .unset, .unset, .unset, .unset] [(.int (1 : Int32))]))
              have hc167 : ¬ ((1 : Int32) = (0 : Int32)) := (by decide)
              refine Runs.by (fun _ hr => XS.ifYes X87.here hx rfl (pc0 := 167) (pc' := 174) rfl (hb hby at_167) rfl ((if0 _ _).trans (feq hc167).2) (by decide) (by decide) hr) ?_
              refine Runs.by (fun _ hr => XS.iconst X87.here hx rfl (hb hby at_174) hr) ?_
              refine Runs.by (fun _ hr => XS.istore X87.here hx rfl (hb hby at_175) rfl (l' := #[.val (.long q0), .second, .val (.long q1), .second, .val (.int p2), .val (.int p3), .val (.int p4), .val (.long da), .second, .val (.long db), .second, .val (.int (1 : Int32)), .val (.int (1 : Int32)), .val (.ref b67), .val (.int (0 : Int32)), .val (.int s2), .val (.int s3), .val (.int (1 : Int32)), .val (.int (1 : Int32)), .val (.int (0 : Int32)), .unset, .unset, .unset, .unset, .unset]) rfl hr) ?_
              show Runs p e below _ (T87.setTop (mkF m 177 #[.val (.long q0), .second, .val (.long q1), .second, .val (.int p2), .val (.int p3), .val (.int p4), .val (.long da), .second, .val (.long db), .second, .val (.int (1 : Int32)), .val (.int (1 : Int32)), .val (.ref b67), .val (.int (0 : Int32)), .val (.int s2), .val (.int s3), .val (.int (1 : Int32)), .val (.int (1 : Int32)), .val (.int (0 : Int32)), .unset, .unset, .unset, .unset, .unset] []))
              refine Runs.by (fun _ hr => XS.iload X87.here hx rfl (hb hby at_177) rfl  hr) ?_
              have hc179 : ¬ ((1 : Int32) = (0 : Int32)) := (by decide)
              refine Runs.by (fun _ hr => XS.ifNo X87.here hx rfl (hb hby at_179) rfl ((if0 _ _).trans (feq hc179).1) hr) ?_
              refine Runs.by (fun _ hr => XS.iload X87.here hx rfl (hb hby at_182) rfl  hr) ?_
              show Runs p e below _ (T87.setTop (mkF m 184 #[.val (.long q0), .second, .val (.long q1), .second, .val (.int p2), .val (.int p3), .val (.int p4), .val (.long da), .second, .val (.long db), .second, .val (.int (1 : Int32)), .val (.int (1 : Int32)), .val (.ref b67), .val (.int (0 : Int32)), .val (.int s2), .val (.int s3), .val (.int (1 : Int32)), .val (.int (1 : Int32)), .val (.int (0 : Int32)), .unset, .unset, .unset, .unset, .unset] [(.int (1 : Int32))]))
              have hc184 : ¬ ((1 : Int32) = (0 : Int32)) := (by decide)
              refine Runs.by (fun _ hr => XS.ifNo X87.here hx rfl (hb hby at_184) rfl ((if0 _ _).trans (feq hc184).1) hr) ?_
              refine Runs.by (fun _ hr => XS.iload X87.here hx rfl (hb hby at_187) rfl  hr) ?_
              refine Runs.by (fun _ hr => XS.iload X87.here hx rfl (hb hby at_189) rfl  hr) ?_
              show Runs p e below _ (T87.setTop (mkF m 191 #[.val (.long q0), .second, .val (.long q1), .second, .val (.int p2), .val (.int p3), .val (.int p4), .val (.long da), .second, .val (.long db), .second, .val (.int (1 : Int32)), .val (.int (1 : Int32)), .val (.ref b67), .val (.int (0 : Int32)), .val (.int s2), .val (.int s3), .val (.int (1 : Int32)), .val (.int (1 : Int32)), .val (.int (0 : Int32)), .unset, .unset, .unset, .unset, .unset] [(.int (1 : Int32)), (.int (1 : Int32))]))
              have hc191 : (1 : Int32) = (1 : Int32) := (by decide)
              refine Runs.by (fun _ hr => XS.icmpYes X87.here hx rfl (pc0 := 191) (pc' := 248) rfl (hb hby at_191) rfl (teq hc191).1 (by decide) (by decide) hr) ?_
              refine Runs.by (fun _ hr => XS.iload X87.here hx rfl (hb hby at_248) rfl  hr) ?_
              have hc250 : ¬ ((1 : Int32) = (0 : Int32)) := (by decide)
              refine Runs.by (fun _ hr => XS.ifNo X87.here hx rfl (hb hby at_250) rfl ((if0 _ _).trans (feq hc250).1) hr) ?_
              show Runs p e below _ (T87.setTop (mkF m 253 #[.val (.long q0), .second, .val (.long q1), .second, .val (.int p2), .val (.int p3), .val (.int p4), .val (.long da), .second, .val (.long db), .second, .val (.int (1 : Int32)), .val (.int (1 : Int32)), .val (.ref b67), .val (.int (0 : Int32)), .val (.int s2), .val (.int s3), .val (.int (1 : Int32)), .val (.int (1 : Int32)), .val (.int (0 : Int32)), .unset, .unset, .unset, .unset, .unset] []))
              refine Runs.by (fun _ hr => XS.iload X87.here hx rfl (hb hby at_253) rfl  hr) ?_
              have hc255 : ¬ ((1 : Int32) = (0 : Int32)) := (by decide)
              refine Runs.by (fun _ hr => XS.ifNo X87.here hx rfl (hb hby at_255) rfl ((if0 _ _).trans (feq hc255).1) hr) ?_
              refine Runs.by (fun _ hr => XS.iload X87.here hx rfl (hb hby at_258) rfl  hr) ?_
              show Runs p e below _ (T87.setTop (mkF m 260 #[.val (.long q0), .second, .val (.long q1), .second, .val (.int p2), .val (.int p3), .val (.int p4), .val (.long da), .second, .val (.long db), .second, .val (.int (1 : Int32)), .val (.int (1 : Int32)), .val (.ref b67), .val (.int (0 : Int32)), .val (.int s2), .val (.int s3), .val (.int (1 : Int32)), .val (.int (1 : Int32)), .val (.int (0 : Int32)), .unset, .unset, .unset, .unset, .unset] [(.int (1 : Int32))]))
              have hc260 : ¬ ((1 : Int32) = (0 : Int32)) := (by decide)
              refine Runs.by (fun _ hr => XS.ifNo X87.here hx rfl (hb hby at_260) rfl ((if0 _ _).trans (feq hc260).1) hr) ?_
              refine Runs.by (fun _ hr => XS.iload X87.here hx rfl (hb hby at_263) rfl  hr) ?_
              have hc265 : ¬ ((1 : Int32) = (0 : Int32)) := (by decide)
              refine Runs.by (fun _ hr => XS.ifYes X87.here hx rfl (pc0 := 265) (pc' := 272) rfl (hb hby at_265) rfl ((if0 _ _).trans (feq hc265).2) (by decide) (by decide) hr) ?_
              show Runs p e below _ (T87.setTop (mkF m 272 #[.val (.long q0), .second, .val (.long q1), .second, .val (.int p2), .val (.int p3), .val (.int p4), .val (.long da), .second, .val (.long db), .second, .val (.int (1 : Int32)), .val (.int (1 : Int32)), .val (.ref b67), .val (.int (0 : Int32)), .val (.int s2), .val (.int s3), .val (.int (1 : Int32)), .val (.int (1 : Int32)), .val (.int (0 : Int32)), .unset, .unset, .unset, .unset, .unset] []))
              refine Runs.by (fun _ hr => XS.iconst X87.here hx rfl (hb hby at_272) hr) ?_
              refine Runs.by (fun _ hr => XS.istore X87.here hx rfl (hb hby at_273) rfl (l' := #[.val (.long q0), .second, .val (.long q1), .second, .val (.int p2), .val (.int p3), .val (.int p4), .val (.long da), .second, .val (.long db), .second, .val (.int (1 : Int32)), .val (.int (1 : Int32)), .val (.ref b67), .val (.int (0 : Int32)), .val (.int s2), .val (.int s3), .val (.int (1 : Int32)), .val (.int (1 : Int32)), .val (.int (0 : Int32)), .val (.int (0 : Int32)), .unset, .unset, .unset, .unset]) rfl hr) ?_
              refine Runs.by (fun _ hr => XS.iload X87.here hx rfl (hb hby at_275) rfl  hr) ?_
              show Runs p e below _ (T87.setTop (mkF m 277 #[.val (.long q0), .second, .val (.long q1), .second, .val (.int p2), .val (.int p3), .val (.int p4), .val (.long da), .second, .val (.long db), .second, .val (.int (1 : Int32)), .val (.int (1 : Int32)), .val (.ref b67), .val (.int (0 : Int32)), .val (.int s2), .val (.int s3), .val (.int (1 : Int32)), .val (.int (1 : Int32)), .val (.int (0 : Int32)), .val (.int (0 : Int32)), .unset, .unset, .unset, .unset] [(.int (0 : Int32))]))
              have hc277 : (0 : Int32) = (0 : Int32) := (by decide)
              refine Runs.by (fun _ hr => XS.ifNo X87.here hx rfl (hb hby at_277) rfl ((if0 _ _).trans (teq hc277).2) hr) ?_
              refine Runs.by (fun _ hr => XS.iload X87.here hx rfl (hb hby at_280) rfl  hr) ?_
              refine Runs.by (fun _ hr => XS.iload X87.here hx rfl (hb hby at_282) rfl  hr) ?_
              show Runs p e below _ (T87.setTop (mkF m 284 #[.val (.long q0), .second, .val (.long q1), .second, .val (.int p2), .val (.int p3), .val (.int p4), .val (.long da), .second, .val (.long db), .second, .val (.int (1 : Int32)), .val (.int (1 : Int32)), .val (.ref b67), .val (.int (0 : Int32)), .val (.int s2), .val (.int s3), .val (.int (1 : Int32)), .val (.int (1 : Int32)), .val (.int (0 : Int32)), .val (.int (0 : Int32)), .unset, .unset, .unset, .unset] [(.int (0 : Int32)), (.int s2)]))
              have hc284 : s2 = (0 : Int32) := hs2
              refine Runs.by (fun _ hr => XS.icmpNo X87.here hx rfl (hb hby at_284) rfl (teq hc284).2 hr) ?_
              refine Runs.by (fun _ hr => XS.iload X87.here hx rfl (hb hby at_287) rfl  hr) ?_
              refine Runs.by (fun _ hr => XS.iload X87.here hx rfl (hb hby at_289) rfl  hr) ?_
              show Runs p e below _ (T87.setTop (mkF m 291 #[.val (.long q0), .second, .val (.long q1), .second, .val (.int p2), .val (.int p3), .val (.int p4), .val (.long da), .second, .val (.long db), .second, .val (.int (1 : Int32)), .val (.int (1 : Int32)), .val (.ref b67), .val (.int (0 : Int32)), .val (.int s2), .val (.int s3), .val (.int (1 : Int32)), .val (.int (1 : Int32)), .val (.int (0 : Int32)), .val (.int (0 : Int32)), .unset, .unset, .unset, .unset] [(.int (0 : Int32)), (.int s3)]))
              have hc291 : s3 = (0 : Int32) := hs3
              refine Runs.by (fun _ hr => XS.icmpNo X87.here hx rfl (hb hby at_291) rfl (teq hc291).2 hr) ?_
              refine Runs.by (fun _ hr => XS.iconst X87.here hx rfl (hb hby at_294) hr) ?_
              refine Runs.by (fun _ hr => XS.goto X87.here hx rfl (pc0 := 295) (pc' := 299) rfl (hb hby at_295) (by decide) (by decide) hr) ?_
              show Runs p e below _ (T87.setTop (mkF m 299 #[.val (.long q0), .second, .val (.long q1), .second, .val (.int p2), .val (.int p3), .val (.int p4), .val (.long da), .second, .val (.long db), .second, .val (.int (1 : Int32)), .val (.int (1 : Int32)), .val (.ref b67), .val (.int (0 : Int32)), .val (.int s2), .val (.int s3), .val (.int (1 : Int32)), .val (.int (1 : Int32)), .val (.int (0 : Int32)), .val (.int (0 : Int32)), .unset, .unset, .unset, .unset] [(.int (1 : Int32))]))
              refine Runs.ret X87 hx hrt hlk (Or.inl ⟨rfl, by simp, _, rfl⟩) (by rfl) (hb hby at_299) (by decide) (by decide) ?_
              exact ⟨rfl, N87⟩
set_option maxRecDepth 65536 in
set_option maxHeartbeats 40000000 in
theorem comes_1 {Post : Tables → Env → Array Value → State → Outcome → State → Prop} (hpost : ∀ tb e args s v u, (limb_1_1.after args s (.returned v) u = true ∧ limb_1_2.after args s (.returned v) u = true ∧ True) → FrameEnd s (.returned v) u (Jvm.fieldLocs frame_1_writes args s ++ Jvm.arrayLocs frame_1_arrays args s ++ Jvm.staticLocs frame_1_statics s) 16 128 → Post tb e args s (.returned v) u) :
    ArmFor flags0 classFile x code maxLocals ret World_1 tables_1 room_1 Calls_1 rest_1 Pre_1 Post := by
  intro l hfl _ _ p e ha hc hk s m args below hf hA hF happ hP
  obtain ⟨hcalls, hrest, hpre⟩ := hP
  obtain ⟨-, -, -, hnamed, -, -, -, hat⟩ := (Spec.applies_iff hf).mp happ
  obtain ⟨hg, hn⟩ := and_e (Cond.before_iff.mp (show (Jvm.Cond.and given_1 narrow_1).before args s = true from hpre))
  obtain ⟨g1, g2⟩ := and_e hg
  obtain ⟨g3, g4⟩ := and_e g2
  obtain ⟨g5, g6⟩ := and_e g4
  obtain ⟨g7, g8⟩ := and_e g6
  obtain ⟨g9, g10⟩ := and_e g8
  obtain ⟨w0, w1, w2, w3, w4, rfl⟩ : ∃ w0 w1 w2 w3 w4 : Value, args = #[w0, w1, w2, w3, w4] := by
    have hs : args.size = 5 := by simpa [Cond.value, given_1] using g1
    obtain ⟨L⟩ := args
    match L, hs with
    | [w0, w1, w2, w3, w4], _ => exact ⟨w0, w1, w2, w3, w4, rfl⟩
  have hw := fun d (hd : d ∈ tables_1) => atoms_spec (ws := Jvm.Cond.code x code maxLocals ret :: tables_1) hat d (List.mem_cons_of_mem _ hd)
  have hfit : Fit s := fun {y c} hc i hi => by
    obtain ⟨ha, rfl⟩ := Array.getElem?_eq_some_iff.mp hc
    have q := List.all_eq_true.mp ((Array.all_eq_true_iff_forall_mem.mp hF) _ (Array.getElem_mem ha)) i (List.mem_range.mpr hi)
    simpa [Array.getElem?_eq_getElem hi] using q
  obtain ⟨i0, ei0⟩ := isL_v g3
  obtain rfl : w0 = (.long i0) := Option.some.inj ei0
  obtain ⟨i1, ei1⟩ := isL_v g5
  obtain rfl : w1 = (.long i1) := Option.some.inj ei1
  obtain ⟨i2, ei2⟩ := is_v g7
  obtain rfl : w2 = (.int i2) := Option.some.inj ei2
  obtain ⟨i3, ei3⟩ := is_v g9
  obtain rfl : w3 = (.int i3) := Option.some.inj ei3
  obtain ⟨i4, ei4⟩ := is_v g10
  obtain rfl : w4 = (.int i4) := Option.some.inj ei4
  obtain ⟨n, o, h1, h2, h3, _, L, rfl, ⟨rfl, N⟩, hq⟩ := rm0 l s _ hw tables_1 i0 i1 i2 i3 i4  s.heap s.heap.size (Nat.le_refl _)  p e ha hc hk s m _ below hf ((Spec.applies_iff_loose hf).mp happ).1 ⟨rfl, State.Warmed39.refl s, rfl⟩ trivial
  refine ⟨n, _, h1, h2, h3, hpost _ _ _ _ _ _ ⟨Cond.after_iff.mpr rfl, Cond.after_iff.mpr (eq_i res_at (Term.int_eval (1)) rfl), trivial⟩ ⟨hq.1, hq.2.1, (hq.2.2.sift fun y hy => Or.inr (N y hy)).mono (by decide) (by decide)⟩⟩
theorem main_1_1 : Claimed_1_1 := comes_1 fun _ _ _ _ _ _ h hF => ⟨h.1, hF⟩
theorem main_1_2 : Claimed_1_2 := comes_1 fun _ _ _ _ _ _ h hF => ⟨h.2.1, hF⟩
end Jvm.Pilot.@@N@@
namespace Jvm.Pilot.@@N@@
open Jvm Jvm.ClassFile Sem Op Lib Jvm.Free Jvm.Stand Jvm.Pilot.@@N@@.Jvm.D
/-! MADE BY PROGRAM (witnessworld.py) out of the Statement's table words and the real class files: 7 classes; the members and pool entries that the words name. The judged class is class 1, her method 1. -/
namespace start1
open Jvm.ClassFile
def u (s : String) : CpInfo := .utf8 (stringToUtf16 s)
/-- a pool by its gaps: so many unusable entries, then the entry; so many at the end -/
def gap : Nat → List CpInfo → List CpInfo
  | 0, r => r
  | n + 1, r => .unusable :: gap n r
def poolList (es : List (Nat × CpInfo)) (last : Nat) : List CpInfo := es.foldr (fun e r => gap e.1 (e.2 :: r)) (gap last [])
def pool (es : List (Nat × CpInfo)) (last : Nat) : Array CpInfo := ⟨poolList es last⟩
def fileOf (pool : Array CpInfo) (this : Nat) (attrs : Array Attribute := #[]) (ms : Array MethodInfo := #[]) (fl : Nat := 33) (sup : Nat := 0) (ifs : Array Nat := #[]) (fds : Array FieldInfo := #[]) : ClassFile where
  minorVersion := 0
  majorVersion := 65
  constantPool := pool
  accessFlags := fl
  thisClass := this
  superClass := sup
  interfaces := ifs
  fields := fds
  methods := ms
  attributes := attrs
def plain (name : String) (sup : Option ClassId) : Class where
  name := name
  kind := .ordinary
  loader := none
  accessFlags := 33
  super := sup
  interfaces := #[]
  cf := none
  fields := #[]
  methods := #[]
  instanceTypes := #[]
  staticTypes := #[]
  resolved := #[]
  callSites := []
  init := .initialized
  statics := none
  mirror := none

def pool0 : Array CpInfo := pool [(5, u "<init>"), (0, u "()V"), (1, .class_ 10), (1, u "java/lang/Object")] 113

def k0c0 : Code := { maxStack := 0, maxLocals := 1, code := object_method_1_code, exceptionTable := #[], attributes := #[] }
def k0m0 : Method := { name := "<init>", desc := "()V", sig := { parameters := [], returnType := none }, accessFlags := 1, code := some k0c0 }
/-- java/lang/Object -/
def k0 : Class := { plain "java/lang/Object" none with
  accessFlags := 33
  interfaces := #[]
  cf := some (fileOf pool0 8 #[] #[{ accessFlags := 1, nameIndex := 5, descriptorIndex := 6, attributes := #[] }] 33 0 #[] #[])
  fields := #[]
  methods := #[k0m0]
  instanceTypes := #[]
  staticTypes := #[]
  resolved := Array.replicate 124 none
  statics := none }

def pool1 : Array CpInfo := pool [(2, .class_ 4), (0, .nameAndType 5 6), (0, u "java/lang/Object"), (0, u "<init>"), (0, u "()V"), (0, .long 2147483647), (1, .class_ 10), (0, u "com/example/dialtone/dialtone/workload/Workers$Sharing"), (0, .methodref 9 3), (0, .methodref 9 13), (0, .nameAndType 14 15), (0, u "shares"), (0, u "()Z"), (0, .methodref 9 17), (0, .nameAndType 18 19), (0, u "started"), (0, u "(JZ)V"), (0, .methodref 9 21), (0, .nameAndType 22 6), (0, u "stepped"), (0, .methodref 9 24), (0, .nameAndType 25 26), (0, u "ended"), (0, u "(J)V"), (0, .long 10), (1, .long 9), (1, .class_ 32), (0, u "com/example/dialtone/dialtone/workload/SharingSharesPinLaw"), (2, u "law"), (0, u "(JJIII)Z")] 7

def k1m0 : Method := { name := "<init>", desc := "()V", sig := { parameters := [], returnType := none }, accessFlags := 1, code := none }
def k1c1 : Code := { maxStack := 6, maxLocals := 25, code := code, exceptionTable := #[], attributes := #[] }
def k1m1 : Method := { name := "law", desc := "(JJIII)Z", sig := { parameters := [.long, .long, .int, .int, .int], returnType := some .boolean }, accessFlags := 9, code := some k1c1 }
/-- com/example/dialtone/dialtone/workload/SharingSharesPinLaw -/
def k1 : Class := { plain "com/example/dialtone/dialtone/workload/SharingSharesPinLaw" (some 0) with
  accessFlags := 49
  interfaces := #[]
  cf := some (fileOf pool1 31 #[] #[{ accessFlags := 1, nameIndex := 5, descriptorIndex := 6, attributes := #[] }, { accessFlags := 9, nameIndex := 35, descriptorIndex := 36, attributes := #[] }] 49 2 #[] #[])
  fields := #[]
  methods := #[k1m0, k1m1]
  instanceTypes := #[]
  staticTypes := #[]
  resolved := Array.replicate 44 none
  statics := none }

def pool2 : Array CpInfo := pool [(1, .methodref 2 3), (0, .class_ 4), (0, .nameAndType 5 6), (0, u "java/lang/Object"), (0, u "<init>"), (0, u "()V"), (0, .fieldref 8 9), (0, .class_ 10), (0, .nameAndType 11 12), (0, u "com/example/dialtone/dialtone/workload/Workers$Sharing"), (0, u "nanosPerStep"), (0, u "[D"), (0, .fieldref 8 14), (0, .nameAndType 15 16), (0, u "rounds"), (0, u "J"), (0, .fieldref 8 18), (0, .nameAndType 19 20), (0, u "otherWay"), (0, u "Z"), (0, .long 64), (1, .fieldref 8 24), (0, .nameAndType 25 26), (0, u "sharedOverUnshared"), (0, u "D"), (0, .double 4606281698874543309), (1, .fieldref 8 30), (0, .nameAndType 31 16), (0, u "started"), (0, .fieldref 8 33), (0, .nameAndType 34 20), (0, u "shared"), (0, .fieldref 8 36), (0, .nameAndType 37 16), (0, u "steps"), (0, .methodref 8 39), (0, .nameAndType 40 41), (0, u "average"), (0, u "(DD)D"), (0, .double 4593671619917905920), (1, u "OTHER_WAY"), (0, u "I"), (2, u "SHARED_AT_MOST"), (0, u "WEIGHT"), (2, u "shares"), (0, u "()Z"), (1, u "(JZ)V"), (0, u "stepped"), (0, u "ended"), (0, u "(J)V"), (3, .class_ 63), (0, u "com/example/dialtone/dialtone/workload/Workers")] 2

def k2c0 : Code := { maxStack := 2, maxLocals := 1, code := prog_268_method_1_code, exceptionTable := #[], attributes := #[] }
def k2m0 : Method := { name := "<init>", desc := "()V", sig := { parameters := [], returnType := none }, accessFlags := 0, code := some k2c0 }
def k2c1 : Code := { maxStack := 5, maxLocals := 2, code := prog_268_method_2_code, exceptionTable := #[], attributes := #[] }
def k2m1 : Method := { name := "shares", desc := "()Z", sig := { parameters := [], returnType := some .boolean }, accessFlags := 0, code := some k2c1 }
def k2c2 : Code := { maxStack := 3, maxLocals := 4, code := prog_268_method_3_code, exceptionTable := #[], attributes := #[] }
def k2m2 : Method := { name := "started", desc := "(JZ)V", sig := { parameters := [.long, .boolean], returnType := none }, accessFlags := 0, code := some k2c2 }
def k2c3 : Code := { maxStack := 5, maxLocals := 1, code := prog_268_method_4_code, exceptionTable := #[], attributes := #[] }
def k2m3 : Method := { name := "stepped", desc := "()V", sig := { parameters := [], returnType := none }, accessFlags := 0, code := some k2c3 }
def k2c4 : Code := { maxStack := 6, maxLocals := 8, code := prog_268_method_5_code, exceptionTable := #[], attributes := #[] }
def k2m4 : Method := { name := "ended", desc := "(J)V", sig := { parameters := [.long], returnType := none }, accessFlags := 0, code := some k2c4 }
def k2c5 : Code := { maxStack := 8, maxLocals := 4, code := prog_268_method_6_code, exceptionTable := #[], attributes := #[] }
def k2m5 : Method := { name := "average", desc := "(DD)D", sig := { parameters := [.double, .double], returnType := some .double }, accessFlags := 10, code := some k2c5 }
/-- com/example/dialtone/dialtone/workload/Workers$Sharing -/
def k2 : Class := { plain "com/example/dialtone/dialtone/workload/Workers$Sharing" (some 0) with
  accessFlags := 48
  interfaces := #[]
  cf := some (fileOf pool2 8 #[.nestHost 62] #[{ accessFlags := 0, nameIndex := 5, descriptorIndex := 6, attributes := #[] }, { accessFlags := 0, nameIndex := 52, descriptorIndex := 53, attributes := #[] }, { accessFlags := 0, nameIndex := 31, descriptorIndex := 55, attributes := #[] }, { accessFlags := 0, nameIndex := 56, descriptorIndex := 6, attributes := #[] }, { accessFlags := 0, nameIndex := 57, descriptorIndex := 58, attributes := #[] }, { accessFlags := 10, nameIndex := 40, descriptorIndex := 41, attributes := #[] }] 48 2 #[] #[{ accessFlags := 24, nameIndex := 44, descriptorIndex := 45, attributes := #[] }, { accessFlags := 26, nameIndex := 48, descriptorIndex := 26, attributes := #[] }, { accessFlags := 26, nameIndex := 49, descriptorIndex := 26, attributes := #[] }, { accessFlags := 18, nameIndex := 11, descriptorIndex := 12, attributes := #[] }, { accessFlags := 2, nameIndex := 25, descriptorIndex := 26, attributes := #[] }, { accessFlags := 2, nameIndex := 15, descriptorIndex := 16, attributes := #[] }, { accessFlags := 2, nameIndex := 31, descriptorIndex := 16, attributes := #[] }, { accessFlags := 2, nameIndex := 34, descriptorIndex := 20, attributes := #[] }, { accessFlags := 2, nameIndex := 19, descriptorIndex := 20, attributes := #[] }, { accessFlags := 2, nameIndex := 37, descriptorIndex := 16, attributes := #[] }])
  fields := #[{ name := "OTHER_WAY", type := .int, accessFlags := 24, slot := 0, constantValue := 0 }, { name := "SHARED_AT_MOST", type := .double, accessFlags := 26, slot := 1, constantValue := 0 }, { name := "WEIGHT", type := .double, accessFlags := 26, slot := 2, constantValue := 0 }, { name := "nanosPerStep", type := (.array .double), accessFlags := 18, slot := 0, constantValue := 0 }, { name := "sharedOverUnshared", type := .double, accessFlags := 2, slot := 1, constantValue := 0 }, { name := "rounds", type := .long, accessFlags := 2, slot := 2, constantValue := 0 }, { name := "started", type := .long, accessFlags := 2, slot := 3, constantValue := 0 }, { name := "shared", type := .boolean, accessFlags := 2, slot := 4, constantValue := 0 }, { name := "otherWay", type := .boolean, accessFlags := 2, slot := 5, constantValue := 0 }, { name := "steps", type := .long, accessFlags := 2, slot := 6, constantValue := 0 }]
  methods := #[k2m0, k2m1, k2m2, k2m3, k2m4, k2m5]
  instanceTypes := #[(.array .double), .double, .long, .long, .boolean, .boolean, .long]
  staticTypes := #[.int, .double, .double]
  resolved := Array.replicate 66 none
  statics := none }

def pool3 : Array CpInfo := pool [(1, u "java/lang/Cloneable"), (0, .class_ 1), (0, u "java/lang/Object"), (0, .class_ 3)] 3

/-- java/lang/Cloneable -/
def k3 : Class := { plain "java/lang/Cloneable" (some 0) with
  accessFlags := 1537
  interfaces := #[]
  cf := some (fileOf pool3 2 #[] #[] 1537 4 #[] #[])
  fields := #[]
  methods := #[]
  instanceTypes := #[]
  staticTypes := #[]
  resolved := Array.replicate 8 none
  statics := none }

def pool4 : Array CpInfo := pool [(1, u "java/io/Serializable"), (0, .class_ 1), (0, u "java/lang/Object"), (0, .class_ 3)] 3

/-- java/io/Serializable -/
def k4 : Class := { plain "java/io/Serializable" (some 0) with
  accessFlags := 1537
  interfaces := #[]
  cf := some (fileOf pool4 2 #[] #[] 1537 4 #[] #[])
  fields := #[]
  methods := #[]
  instanceTypes := #[]
  staticTypes := #[]
  resolved := Array.replicate 8 none
  statics := none }

/-- the primitive byte -/
def k5 : Class := { plain "byte" none with kind := .primitive 'B', accessFlags := 0x411 }
/-- [B -/
def k6 : Class := { plain "[B" (some 0) with kind := .array 5 .byte, interfaces := #[3, 4], accessFlags := 1041 }

/-- the primitive double -/
def k7 : Class := { plain "double" none with kind := .primitive 'D', accessFlags := 0x411 }
/-- [D -/
def k8 : Class := { plain "[D" (some 0) with kind := .array 7 .double, interfaces := #[3, 4], accessFlags := 1041 }

def heap : Heap := #[]
def classes : Array Class := #[k0, k1, k2, k3, k4, k5, k6, k7, k8]
def interned : List (Array UInt16 × Addr) := []
def slotsUsed : Nat := 0
def theMethod : MethodId := ⟨1, 1⟩
def args0 : Array Value := #[.long 5, .long 3, .int 9, .int 11, .int 2]
def aboutOver (below : List Frame) : State where
  vm := { classes := classes, interned := interned.toArray }
  heap := heap
  slotsUsed := slotsUsed
  threads := #[{ frames := .invoking theMethod args0 :: below }]
def below0 : List Frame := [.native { method := ⟨0, 0⟩, args := #[] }]
def about1 : State := aboutOver below0
def p0 : Program := .bare "" "" ""
def e0 : Env := launch0.env 0 0 0
theorem w_frames : about1.frames = Frame.invoking theMethod args0 :: below0 := rfl
set_option maxRecDepth 65536 in
theorem w_args : argsFit about1.vm theMethod args0 = true := by decide +kernel
set_option maxRecDepth 65536 in
theorem w_heap : heapFits about1 = true := by decide +kernel
set_option maxRecDepth 65536 in
theorem w_runnable : about1.curStatus? = some .runnable := by decide +kernel
set_option maxRecDepth 65536 in
theorem w_alone : about1.alone = true := by decide +kernel
set_option maxRecDepth 65536 in
theorem w_named : about1.methodNamed? x = some theMethod := by decide +kernel
set_option maxRecDepth 65536 in
theorem w_hears : about1.hears theMethod below0 = true := by decide +kernel
set_option maxRecDepth 65536 in
theorem w_ripe : about1.ripe theMethod args0 below0 = true := by decide +kernel
theorem w_running : about1.status = .running := rfl
set_option maxRecDepth 65536 in
theorem w_room : about1.hasRoom e0.platform room_1 = true :=
  launch0.hasRoom_least _ room_1 (by decide +kernel) (by decide +kernel) (by decide +kernel) (by decide +kernel) (by decide +kernel) (by decide +kernel)
theorem allAtoms_all (ts : List Jvm.Cond) (a : Array Jvm.Value) (st : Jvm.State) : (allAtoms ts).before a st = ts.all (fun c => c.before a st) := by
  induction ts with
  | nil => rfl
  | cons c t ih =>
    show (Jvm.Cond.and c (allAtoms t)).before a st = _
    rw [Jvm.Cond.before_and, ih, List.all_cons]
def words1 : List Jvm.Cond := Jvm.Cond.code x code maxLocals ret :: tables_1
/-- a 'code' word, met by the world's own term for the bytes: nothing is compared byte by byte -/
theorem code_word {y : MethodName} {bytes : ByteArray} {mx : Nat} {rt : Option FieldType} {a : Array Value} {s : State} {m : MethodId} {meth : Method} {c : Code} (h1 : s.methodNamed? y = some m) (h2 : s.vm.method? m = some meth) (h3 : meth.code = some c) (h4 : c.code = bytes)
    (h5 : (c.maxLocals == mx && c.exceptionTable.isEmpty && decide (c.maxStack ≤ mostOperands) && decide (meth.sig.returnType = rt) && !meth.locks && decide (parseMethodDescriptor y.desc = some meth.sig)) = true) : (Jvm.Cond.code y bytes mx rt).before a s = true := by
  simp only [Bool.and_eq_true, beq_iff_eq, Bool.not_eq_true', decide_eq_true_eq] at h5
  obtain ⟨⟨⟨⟨⟨g1, g2⟩, g3⟩, g4⟩, g5⟩, g6⟩ := h5
  simp [Cond.before, Cond.holds, Cond.value, h1, h2, h3, h4, g1, g2, g3, g4, g5, g6]
def isCode : Jvm.Cond → Bool
  | .code _ _ _ _ => true
  | _ => false
theorem all_split {L : List Jvm.Cond} {P : Jvm.Cond → Bool} (h1 : L.all (fun c => isCode c || P c) = true) (h2 : ∀ c ∈ L.filter isCode, P c = true) : L.all P = true := by
  refine List.all_eq_true.mpr fun c hc => ?_
  have h := List.all_eq_true.mp h1 c hc
  rcases Bool.eq_false_or_eq_true (isCode c) with hi | hi
  · exact h2 c (List.mem_filter.mpr ⟨hc, hi⟩)
  · simpa [hi] using h
set_option maxRecDepth 65536 in
theorem w_c0 : (Jvm.Cond.code x code maxLocals ret).before args0 about1 = true := code_word (m := ⟨1, 1⟩) (meth := k1m1) (c := k1c1) (by decide +kernel) rfl rfl rfl (by decide +kernel)
set_option maxRecDepth 65536 in
theorem w_c1 : (Jvm.Cond.code ({ cls := "com/example/dialtone/dialtone/workload/Workers$Sharing", name := "<init>", desc := "()V" } : Jvm.MethodName) prog_268_method_1_code (1 : Nat) (Option.none : Option Jvm.ClassFile.FieldType)).before args0 about1 = true := code_word (m := ⟨2, 0⟩) (meth := k2m0) (c := k2c0) (by decide +kernel) rfl rfl rfl (by decide +kernel)
set_option maxRecDepth 65536 in
theorem w_c2 : (Jvm.Cond.code ({ cls := "java/lang/Object", name := "<init>", desc := "()V" } : Jvm.MethodName) object_method_1_code (1 : Nat) (Option.none : Option Jvm.ClassFile.FieldType)).before args0 about1 = true := code_word (m := ⟨0, 0⟩) (meth := k0m0) (c := k0c0) (by decide +kernel) rfl rfl rfl (by decide +kernel)
set_option maxRecDepth 65536 in
theorem w_c3 : (Jvm.Cond.code ({ cls := "com/example/dialtone/dialtone/workload/Workers$Sharing", name := "shares", desc := "()Z" } : Jvm.MethodName) prog_268_method_2_code (2 : Nat) (Option.some Jvm.ClassFile.FieldType.boolean)).before args0 about1 = true := code_word (m := ⟨2, 1⟩) (meth := k2m1) (c := k2c1) (by decide +kernel) rfl rfl rfl (by decide +kernel)
set_option maxRecDepth 65536 in
theorem w_c4 : (Jvm.Cond.code ({ cls := "com/example/dialtone/dialtone/workload/Workers$Sharing", name := "started", desc := "(JZ)V" } : Jvm.MethodName) prog_268_method_3_code (4 : Nat) (Option.none : Option Jvm.ClassFile.FieldType)).before args0 about1 = true := code_word (m := ⟨2, 2⟩) (meth := k2m2) (c := k2c2) (by decide +kernel) rfl rfl rfl (by decide +kernel)
set_option maxRecDepth 65536 in
theorem w_c5 : (Jvm.Cond.code ({ cls := "com/example/dialtone/dialtone/workload/Workers$Sharing", name := "stepped", desc := "()V" } : Jvm.MethodName) prog_268_method_4_code (1 : Nat) (Option.none : Option Jvm.ClassFile.FieldType)).before args0 about1 = true := code_word (m := ⟨2, 3⟩) (meth := k2m3) (c := k2c3) (by decide +kernel) rfl rfl rfl (by decide +kernel)
set_option maxRecDepth 65536 in
theorem w_c6 : (Jvm.Cond.code ({ cls := "com/example/dialtone/dialtone/workload/Workers$Sharing", name := "ended", desc := "(J)V" } : Jvm.MethodName) prog_268_method_5_code (8 : Nat) (Option.none : Option Jvm.ClassFile.FieldType)).before args0 about1 = true := code_word (m := ⟨2, 4⟩) (meth := k2m4) (c := k2c4) (by decide +kernel) rfl rfl rfl (by decide +kernel)
set_option maxRecDepth 65536 in
theorem w_c7 : (Jvm.Cond.code ({ cls := "com/example/dialtone/dialtone/workload/Workers$Sharing", name := "average", desc := "(DD)D" } : Jvm.MethodName) prog_268_method_6_code (4 : Nat) (Option.some Jvm.ClassFile.FieldType.double)).before args0 about1 = true := code_word (m := ⟨2, 5⟩) (meth := k2m5) (c := k2c5) (by decide +kernel) rfl rfl rfl (by decide +kernel)
def codes1 : List Jvm.Cond := [Jvm.Cond.code x code maxLocals ret, Jvm.Cond.code ({ cls := "com/example/dialtone/dialtone/workload/Workers$Sharing", name := "<init>", desc := "()V" } : Jvm.MethodName) prog_268_method_1_code (1 : Nat) (Option.none : Option Jvm.ClassFile.FieldType), Jvm.Cond.code ({ cls := "java/lang/Object", name := "<init>", desc := "()V" } : Jvm.MethodName) object_method_1_code (1 : Nat) (Option.none : Option Jvm.ClassFile.FieldType), Jvm.Cond.code ({ cls := "com/example/dialtone/dialtone/workload/Workers$Sharing", name := "shares", desc := "()Z" } : Jvm.MethodName) prog_268_method_2_code (2 : Nat) (Option.some Jvm.ClassFile.FieldType.boolean), Jvm.Cond.code ({ cls := "com/example/dialtone/dialtone/workload/Workers$Sharing", name := "started", desc := "(JZ)V" } : Jvm.MethodName) prog_268_method_3_code (4 : Nat) (Option.none : Option Jvm.ClassFile.FieldType), Jvm.Cond.code ({ cls := "com/example/dialtone/dialtone/workload/Workers$Sharing", name := "stepped", desc := "()V" } : Jvm.MethodName) prog_268_method_4_code (1 : Nat) (Option.none : Option Jvm.ClassFile.FieldType), Jvm.Cond.code ({ cls := "com/example/dialtone/dialtone/workload/Workers$Sharing", name := "ended", desc := "(J)V" } : Jvm.MethodName) prog_268_method_5_code (8 : Nat) (Option.none : Option Jvm.ClassFile.FieldType), Jvm.Cond.code ({ cls := "com/example/dialtone/dialtone/workload/Workers$Sharing", name := "average", desc := "(DD)D" } : Jvm.MethodName) prog_268_method_6_code (4 : Nat) (Option.some Jvm.ClassFile.FieldType.double)]
set_option maxRecDepth 65536 in
theorem codes_eq : words1.filter isCode = codes1 := rfl
theorem w_codes : ∀ c ∈ words1.filter isCode, c.before args0 about1 = true := by
  rw [codes_eq]
  intro c hc
  simp only [codes1, List.mem_cons, List.not_mem_nil, or_false] at hc
  rcases hc with rfl | rfl | rfl | rfl | rfl | rfl | rfl | rfl
  · exact w_c0
  · exact w_c1
  · exact w_c2
  · exact w_c3
  · exact w_c4
  · exact w_c5
  · exact w_c6
  · exact w_c7
set_option maxRecDepth 65536 in
theorem w_t1 : (words1.take 24).all (fun c => isCode c || c.before args0 about1) = true := by decide +kernel
set_option maxRecDepth 65536 in
theorem w_t2 : ((words1.drop 24).take 24).all (fun c => isCode c || c.before args0 about1) = true := by decide +kernel
set_option maxRecDepth 65536 in
theorem w_t3 : ((words1.drop 24).drop 24).all (fun c => isCode c || c.before args0 about1) = true := by decide +kernel
theorem w_tables : (allAtoms (Jvm.Cond.code x code maxLocals ret :: tables_1)).before args0 about1 = true := by
  rw [allAtoms_all]
  show words1.all (fun c => c.before args0 about1) = true
  refine all_split ?_ w_codes
  rw [← List.take_append_drop 24 words1, List.all_append, w_t1, ← List.take_append_drop 24 (words1.drop 24), List.all_append, w_t2, w_t3]
  rfl
set_option maxRecDepth 65536 in
theorem w_case : (Jvm.Cond.and given_1 narrow_1).before args0 about1 = true := by decide +kernel
theorem w_applies : (headSpec (Jvm.Cond.code x code maxLocals ret :: tables_1) room_1).applies x e0.platform about1 = true :=
  (Spec.applies_iff w_frames).mpr ⟨w_running, w_runnable, w_alone, w_named, w_hears, w_ripe, w_room, w_tables⟩
theorem atStart : AtStart classFile x code maxLocals ret World_1 tables_1 room_1 Calls_1 rest_1 Pre_1 launch0 p0 e0 about1 theMethod args0 below0 :=
  ⟨lists_1, trivial, launch0.admits_env _ _ _, launch0.least_env, fairChoices_fair.cas, fairChoices_fair.clock, w_frames, w_args, w_heap, w_applies, trivial, trivial, w_case⟩
end start1
theorem witness_1 : WitnessClaimed_1 := ⟨start1.p0, start1.e0, start1.about1, start1.theMethod, start1.args0, start1.below0, start1.atStart⟩
end Jvm.Pilot.@@N@@
