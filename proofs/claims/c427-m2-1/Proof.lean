import JvmDerived
import JvmDerived.Pilot.@@N@@Statement
import JvmDerived.Pilot.@@N@@Code
set_option linter.unusedVariables false
set_option linter.unusedSimpArgs false
@@BLOCK:NumsL.lean.txt@@
namespace Jvm.RoadKit
open Sem ClassFile Op Lib Jvm.Stand Jvm.Free Jvm.LawKit
section OwnRuns
variable {p : Program} {l : Launch} {e : Env} {R : Room} {s : State} {m : MethodId} {args : Array Value} {below : List Frame} {meth : Method} {c : Code} {T : State} {locs : List Loc} {cells slots : Nat}
/-- from U the invocation comes to its end, and there Q holds -/
def Runs (p : Program) (e : Env) (below : List Frame) (Q : Outcome → State → Prop) (U : State) : Prop :=
  ∃ s₂ o, Steps p.tables e below U s₂ ∧ s₂.status = .running ∧ Ended s₂ below o ∧ Q o s₂
def QE (s : State) (Q : Option Value → Heap → List Loc → Prop) (C S : Nat) : Outcome → State → Prop :=
  fun o U' => ∃ v L, o = .returned v ∧ Q v U'.heap L ∧ FrameEnd s o U' L C S
theorem Runs.by {Q : Outcome → State → Prop} {U U' : State} (h : ∀ t, Steps p.tables e below U' t → Steps p.tables e below U t) (k : Runs p e below Q U') : Runs p e below Q U := by
  obtain ⟨s2, o, h1, h2⟩ := k
  exact ⟨s2, o, h _ h1, h2⟩
theorem Runs.ret {Q : Option Value → Heap → List Loc → Prop} {C S : Nat} {t : FieldType} {w : Value} {i : Instr} {pc : Nat} {Ls : Array Slot} {rest : List Value}
    (X : Stand p l e R s m args below meth c T locs cells slots) (hx : p.tables.exec = Jvm.exec) (hret : meth.sig.returnType = some t) (hlk : meth.locks = false)
    (hi : (i = .ireturn ∧ (t = .int ∨ t = .boolean ∨ t = .byte ∨ t = .char ∨ t = .short) ∧ ∃ z, w = .int z) ∨ (i = .lreturn ∧ t = .long ∧ ∃ z, w = .long z) ∨ (i = .dreturn ∧ t = .double ∧ ∃ z, w = .double z) ∨ (i = .freturn ∧ t = .float ∧ ∃ z, w = .float z) ∨ (i = .areturn ∧ t.isReference = true ∧ w.isRef = true))
    (hn : narrow t w = w) (hd : decode c.code pc = .ok (i, 1)) (hC : cells ≤ C) (hS : slots ≤ S) (hQ : Q (some w) T.heap locs) : Runs p e below (QE s Q C S) (T.setTop (mkF m pc Ls (w :: rest))) := by
  obtain ⟨fs, hr, hrun, hended, hW, hsame⟩ := X.leave (v := some w) (fun h => by rw [hret] at h; cases h) hlk
  exact ⟨_, _, retOut X hx hret hn hi hd hr, hrun, hended, _, _, rfl, hQ, ⟨_, rfl⟩, hW, hsame.mono hC hS⟩
theorem Runs.retV {Q : Option Value → Heap → List Loc → Prop} {C S : Nat} {pc : Nat} {Ls : Array Slot}
    (X : Stand p l e R s m args below meth c T locs cells slots) (hx : p.tables.exec = Jvm.exec) (hret : meth.sig.returnType = none) (hlk : meth.locks = false)
    (hd : decode c.code pc = .ok (.return_, 1)) (hC : cells ≤ C) (hS : slots ≤ S) (hQ : Q none T.heap locs) : Runs p e below (QE s Q C S) (T.setTop (mkF m pc Ls [])) := by
  obtain ⟨fs, hr, hrun, hended, hW, hsame⟩ := X.leave (v := none) (fun _ => rfl) hlk
  exact ⟨_, _, X.returnOut hx hret hd hr, hrun, hended, _, _, rfl, hQ, ⟨_, rfl⟩, hW, hsame.mono hC hS⟩
theorem own_narrow_b (x : Int32) (h : x = 0 ∨ x = 1) : narrow .boolean (.int x) = .int x := by rcases h with rfl | rfl <;> rfl
end OwnRuns
end Jvm.RoadKit
namespace Jvm.Pilot.@@N@@
open Jvm Jvm.ClassFile Sem Op Lib Jvm.Free Jvm.Stand Jvm.LawKit Jvm.RoadKit Bundle Jvm.Pilot.@@N@@.Jvm.D
theorem own_mod5 (x : Int32) : (x &&& 2147483647) % 5 = 0 ∨ (x &&& 2147483647) % 5 = 1 ∨ (x &&& 2147483647) % 5 = 2 ∨ (x &&& 2147483647) % 5 = 3 ∨ (x &&& 2147483647) % 5 = 4 := by
  have e1 : (x &&& 2147483647).toInt = x.toInt % 2 ^ 31 := Jvm.Kit.i32_mask x 2147483647 (k := 31) (by decide) (by decide)
  generalize x &&& 2147483647 = y at *
  have e2 : (y % 5).toInt = y.toInt % 5 := by
    rw [Int32.toInt_mod]
    have : (5 : Int32).toInt = 5 := by decide
    rw [this, Int.tmod_eq_emod_of_nonneg (by omega)]
  have e3 : (y % 5).toInt = 0 ∨ (y % 5).toInt = 1 ∨ (y % 5).toInt = 2 ∨ (y % 5).toInt = 3 ∨ (y % 5).toInt = 4 := by omega
  rcases e3 with h | h | h | h | h
  · exact Or.inl (Int32.toInt_inj.mp h)
  · exact Or.inr (Or.inl (Int32.toInt_inj.mp h))
  · exact Or.inr (Or.inr (Or.inl (Int32.toInt_inj.mp h)))
  · exact Or.inr (Or.inr (Or.inr (Or.inl (Int32.toInt_inj.mp h))))
  · exact Or.inr (Or.inr (Or.inr (Or.inr (Int32.toInt_inj.mp h))))
theorem own_d0 : Jvm.Free.Fl.NoNaN64 FP.dconst0 := by unfold Jvm.Free.Fl.NoNaN64; decide +kernel
theorem d1_0 : decode prog_2_method_7_code 0 = .ok (.dconst 0, 1) := by decide +kernel
theorem d1_1 : decode prog_2_method_7_code 1 = .ok (.dstore_n 1, 1) := by decide +kernel
theorem d1_2 : decode prog_2_method_7_code 2 = .ok (.aload_n 0, 1) := by decide +kernel
theorem d1_3 : decode prog_2_method_7_code 3 = .ok (.astore_n 3, 1) := by decide +kernel
theorem d1_4 : decode prog_2_method_7_code 4 = .ok (.aload_n 3, 1) := by decide +kernel
theorem d1_5 : decode prog_2_method_7_code 5 = .ok (.arraylength, 1) := by decide +kernel
theorem d1_6 : decode prog_2_method_7_code 6 = .ok (.istore 4, 2) := by decide +kernel
theorem d1_8 : decode prog_2_method_7_code 8 = .ok (.iconst 0, 1) := by decide +kernel
theorem d1_9 : decode prog_2_method_7_code 9 = .ok (.istore 5, 2) := by decide +kernel
theorem d1_11 : decode prog_2_method_7_code 11 = .ok (.iload 5, 2) := by decide +kernel
theorem d1_13 : decode prog_2_method_7_code 13 = .ok (.iload 4, 2) := by decide +kernel
theorem d1_15 : decode prog_2_method_7_code 15 = .ok (.if_icmp .ge 20, 3) := by decide +kernel
theorem d1_18 : decode prog_2_method_7_code 18 = .ok (.aload_n 3, 1) := by decide +kernel
theorem d1_19 : decode prog_2_method_7_code 19 = .ok (.iload 5, 2) := by decide +kernel
theorem d1_21 : decode prog_2_method_7_code 21 = .ok (.daload, 1) := by decide +kernel
theorem d1_22 : decode prog_2_method_7_code 22 = .ok (.dstore 6, 2) := by decide +kernel
theorem d1_24 : decode prog_2_method_7_code 24 = .ok (.dload_n 1, 1) := by decide +kernel
theorem d1_25 : decode prog_2_method_7_code 25 = .ok (.dload 6, 2) := by decide +kernel
theorem d1_27 : decode prog_2_method_7_code 27 = .ok (.dadd, 1) := by decide +kernel
theorem d1_28 : decode prog_2_method_7_code 28 = .ok (.dstore_n 1, 1) := by decide +kernel
theorem d1_29 : decode prog_2_method_7_code 29 = .ok (.iinc 5 1, 3) := by decide +kernel
theorem d1_32 : decode prog_2_method_7_code 32 = .ok (.goto (-21), 3) := by decide +kernel
theorem d1_35 : decode prog_2_method_7_code 35 = .ok (.dload_n 1, 1) := by decide +kernel
theorem d1_36 : decode prog_2_method_7_code 36 = .ok (.dreturn, 1) := by decide +kernel
theorem ef_1_0 (m : MethodId) (o0 : Addr) : entryFrame m #[(.ref o0)] 8 = mkF m 0 #[.val (.ref o0), .unset, .unset, .unset, .unset, .unset, .unset, .unset] [] := by first | (simp [entryFrame, mkF, argsToLocals, Value.category]; done) | rfl
theorem pn_com_example_threshold_threshold_engine_Bm25 : plainName "com/example/threshold/threshold/engine/Bm25" = true := by first | (simp [plainName, overriddenIn]; done) | decide +kernel
def Q_rm1_0 (Z : State) (o0 : Addr) (k : ClassId) (h0 : Heap) (n0 : Nat) (v : Option Value) (h : Heap) (L : List Loc) : Prop := v = some (.double FP.dconst0) ∧ Fr n0 L ∧ h = h0
set_option maxRecDepth 65536 in
set_option maxHeartbeats 40000000 in
theorem rm1_0 (l : Launch) (Z : State) (a0 : Array Value) (hw : ∀ d ∈ tables_1, d.before a0 Z = true) (ws : List Jvm.Cond) (o0 : Addr) (k : ClassId) (h0 : Heap) (n0 : Nat) (Z0 : n0 ≤ h0.size) (V0 : Arv Z h0 o0 k .double (0 : Int32) [] (.double (0 : UInt64))) :
    MetFree l (⟨"com/example/threshold/threshold/engine/Bm25", "sum", "([D)D"⟩ : MethodName) (head1 (Jvm.Cond.code (⟨"com/example/threshold/threshold/engine/Bm25", "sum", "([D)D"⟩ : MethodName) prog_2_method_7_code 8 (some .double) :: ws) ({ frames := 0, cells := 0, slots := 0, locals := 0 } : Room)) (fun a U => a = #[(.ref o0)] ∧ Z.Warmed39 U.vm ∧ U.heap = h0) (fun _ _ _ _ _ => True) (fun _ U o U' => ∃ v L, o = .returned v ∧ Q_rm1_0 Z o0 k h0 n0 v U'.heap L ∧ FrameEnd U o U' L ({ frames := 0, cells := 0, slots := 0, locals := 0 } : Room).cells ({ frames := 0, cells := 0, slots := 0, locals := 0 } : Room).slots) := by
  refine MetFree.of_bodySF (plainFor_of_name pn_com_example_threshold_threshold_engine_Bm25) hisR ?_
  intro p e s m args below meth c s₁ Bd hml0 hP hK
  obtain ⟨rfl, hZ, hh⟩ := hP
  have hx := Bd.exec
  have hby := Bd.bytes
  have hlk := BodyLoose.notSynchronized Bd
  have hrt := Bd.returns
  have hml : c.maxLocals = 8 := hml0
  have hown : s.vm.findClass "com/example/threshold/threshold/engine/Bm25" = some m.cls := findClass_of_methodNamed Bd.named
  have hnm := (name_of_methodNamed Bd.named Bd.method).1
  have X0 : Stand p l e ({ frames := 0, cells := 0, slots := 0, locals := 0 } : Room) s m #[(.ref o0)] below meth c s₁ [] 0 0 := Stand.of_body Bd
  have e0 : s₁.heap = h0 := by rw [← hh, Bd.state]; rfl
  have N0 := Fr.nil n0
  have K0 : Keep h0 h0 [] := Keep.refl h0 _
  show Runs p e below (QE s (Q_rm1_0 Z o0 k h0 n0) ({ frames := 0, cells := 0, slots := 0, locals := 0 } : Room).cells ({ frames := 0, cells := 0, slots := 0, locals := 0 } : Room).slots) (s₁.setTop (entryFrame m #[(.ref o0)] 8))
  rw [ef_1_0 m o0]
  show Runs p e below _ (s₁.setTop (mkF m 0 #[.val (.ref o0), .unset, .unset, .unset, .unset, .unset, .unset, .unset] []))
  refine Runs.by (fun _ hr => XS.dconst0 X0.here hx rfl (hb hby d1_0) rfl hr) ?_
  show Runs p e below _ (s₁.setTop (mkF m 1 #[.val (.ref o0), .unset, .unset, .unset, .unset, .unset, .unset, .unset] [(.double FP.dconst0)]))
  refine Runs.by (fun _ hr => XS.dstoreN X0.here hx rfl (hb hby d1_1) rfl (l' := #[.val (.ref o0), .val (.double FP.dconst0), .second, .unset, .unset, .unset, .unset, .unset]) rfl hr) ?_
  show Runs p e below _ (s₁.setTop (mkF m 2 #[.val (.ref o0), .val (.double FP.dconst0), .second, .unset, .unset, .unset, .unset, .unset] []))
  refine Runs.by (fun _ hr => XS.aloadN X0.here hx rfl (hb hby d1_2) rfl rfl hr) ?_
  show Runs p e below _ (s₁.setTop (mkF m 3 #[.val (.ref o0), .val (.double FP.dconst0), .second, .unset, .unset, .unset, .unset, .unset] [(.ref o0)]))
  refine Runs.by (fun _ hr => XS.astoreN X0.here hx rfl (hb hby d1_3) rfl rfl (l' := #[.val (.ref o0), .val (.double FP.dconst0), .second, .val (.ref o0), .unset, .unset, .unset, .unset]) rfl hr) ?_
  show Runs p e below _ (s₁.setTop (mkF m 4 #[.val (.ref o0), .val (.double FP.dconst0), .second, .val (.ref o0), .unset, .unset, .unset, .unset] []))
  refine Runs.by (fun _ hr => XS.aloadN X0.here hx rfl (hb hby d1_4) rfl rfl hr) ?_
  show Runs p e below _ (s₁.setTop (mkF m 5 #[.val (.ref o0), .val (.double FP.dconst0), .second, .val (.ref o0), .unset, .unset, .unset, .unset] [(.ref o0)]))
  obtain ⟨cl1, Ar1, -, S1, N1', -, -⟩ := id V0
  refine Runs.by (fun t hr => X0.arraylength hx (by rw [e0]; exact Ar1.1) (State.isArrayOf_alike hZ.alike Ar1.2.1) (g := (mkF m 5 #[.val (.ref o0), .val (.double FP.dconst0), .second, .val (.ref o0), .unset, .unset, .unset, .unset] [(.ref o0)])) rfl rfl (hb hby d1_5) t hr) ?_
  rw [len_of S1 N1']
  show Runs p e below _ (s₁.setTop (mkF m 6 #[.val (.ref o0), .val (.double FP.dconst0), .second, .val (.ref o0), .unset, .unset, .unset, .unset] [(.int (0 : Int32))]))
  refine Runs.by (fun _ hr => XS.istore X0.here hx rfl (hb hby d1_6) rfl (l' := #[.val (.ref o0), .val (.double FP.dconst0), .second, .val (.ref o0), .val (.int (0 : Int32)), .unset, .unset, .unset]) rfl hr) ?_
  show Runs p e below _ (s₁.setTop (mkF m 8 #[.val (.ref o0), .val (.double FP.dconst0), .second, .val (.ref o0), .val (.int (0 : Int32)), .unset, .unset, .unset] []))
  refine Runs.by (fun _ hr => XS.iconst X0.here hx rfl (hb hby d1_8) hr) ?_
  show Runs p e below _ (s₁.setTop (mkF m 9 #[.val (.ref o0), .val (.double FP.dconst0), .second, .val (.ref o0), .val (.int (0 : Int32)), .unset, .unset, .unset] [(.int (0 : Int32))]))
  refine Runs.by (fun _ hr => XS.istore X0.here hx rfl (hb hby d1_9) rfl (l' := #[.val (.ref o0), .val (.double FP.dconst0), .second, .val (.ref o0), .val (.int (0 : Int32)), .val (.int (0 : Int32)), .unset, .unset]) rfl hr) ?_
  show Runs p e below _ (s₁.setTop (mkF m 11 #[.val (.ref o0), .val (.double FP.dconst0), .second, .val (.ref o0), .val (.int (0 : Int32)), .val (.int (0 : Int32)), .unset, .unset] []))
  refine Runs.by (fun _ hr => XS.iload X0.here hx rfl (hb hby d1_11) rfl  hr) ?_
  show Runs p e below _ (s₁.setTop (mkF m 13 #[.val (.ref o0), .val (.double FP.dconst0), .second, .val (.ref o0), .val (.int (0 : Int32)), .val (.int (0 : Int32)), .unset, .unset] [(.int (0 : Int32))]))
  refine Runs.by (fun _ hr => XS.iload X0.here hx rfl (hb hby d1_13) rfl  hr) ?_
  show Runs p e below _ (s₁.setTop (mkF m 15 #[.val (.ref o0), .val (.double FP.dconst0), .second, .val (.ref o0), .val (.int (0 : Int32)), .val (.int (0 : Int32)), .unset, .unset] [(.int (0 : Int32)), (.int (0 : Int32))]))
  have hc15 : ¬ ((0 : Int32) < (0 : Int32)) := (by decide)
  refine Runs.by (fun _ hr => XS.icmpYes X0.here hx rfl (pc0 := 15) (pc' := 35) rfl (hb hby d1_15) rfl (flt hc15).2.1 (by decide) (by decide) hr) ?_
  show Runs p e below _ (s₁.setTop (mkF m 35 #[.val (.ref o0), .val (.double FP.dconst0), .second, .val (.ref o0), .val (.int (0 : Int32)), .val (.int (0 : Int32)), .unset, .unset] []))
  refine Runs.by (fun _ hr => XS.dloadN X0.here hx rfl (hb hby d1_35) rfl  hr) ?_
  show Runs p e below _ (s₁.setTop (mkF m 36 #[.val (.ref o0), .val (.double FP.dconst0), .second, .val (.ref o0), .val (.int (0 : Int32)), .val (.int (0 : Int32)), .unset, .unset] [(.double FP.dconst0)]))
  refine Runs.ret X0 hx hrt hlk (Or.inr (Or.inr (Or.inl ⟨rfl, rfl, _, rfl⟩))) rfl (hb hby d1_36) (by decide) (by decide) ?_
  rw [e0]
  exact ⟨rfl, N0, rfl⟩
def Q_rm1_1 (Z : State) (o0 : Addr) (k : ClassId) (x0 : UInt64) (h0 : Heap) (n0 : Nat) (v : Option Value) (h : Heap) (L : List Loc) : Prop := v = some (.double (FP.dadd FP.dconst0 x0)) ∧ Fr n0 L ∧ h = h0
set_option maxRecDepth 65536 in
set_option maxHeartbeats 40000000 in
theorem rm1_1 (l : Launch) (Z : State) (a0 : Array Value) (hw : ∀ d ∈ tables_1, d.before a0 Z = true) (ws : List Jvm.Cond) (o0 : Addr) (k : ClassId) (x0 : UInt64) (h0 : Heap) (n0 : Nat) (Z0 : n0 ≤ h0.size) (V0 : Arv Z h0 o0 k .double (1 : Int32) [(.double x0)] (.double (0 : UInt64))) (f0 : Jvm.Free.Fl.Fin64 x0) :
    MetFree l (⟨"com/example/threshold/threshold/engine/Bm25", "sum", "([D)D"⟩ : MethodName) (head1 (Jvm.Cond.code (⟨"com/example/threshold/threshold/engine/Bm25", "sum", "([D)D"⟩ : MethodName) prog_2_method_7_code 8 (some .double) :: ws) ({ frames := 0, cells := 0, slots := 0, locals := 0 } : Room)) (fun a U => a = #[(.ref o0)] ∧ Z.Warmed39 U.vm ∧ U.heap = h0) (fun _ _ _ _ _ => True) (fun _ U o U' => ∃ v L, o = .returned v ∧ Q_rm1_1 Z o0 k x0 h0 n0 v U'.heap L ∧ FrameEnd U o U' L ({ frames := 0, cells := 0, slots := 0, locals := 0 } : Room).cells ({ frames := 0, cells := 0, slots := 0, locals := 0 } : Room).slots) := by
  refine MetFree.of_bodySF (plainFor_of_name pn_com_example_threshold_threshold_engine_Bm25) hisR ?_
  intro p e s m args below meth c s₁ Bd hml0 hP hK
  obtain ⟨rfl, hZ, hh⟩ := hP
  have hx := Bd.exec
  have hby := Bd.bytes
  have hlk := BodyLoose.notSynchronized Bd
  have hrt := Bd.returns
  have hml : c.maxLocals = 8 := hml0
  have hown : s.vm.findClass "com/example/threshold/threshold/engine/Bm25" = some m.cls := findClass_of_methodNamed Bd.named
  have hnm := (name_of_methodNamed Bd.named Bd.method).1
  have X0 : Stand p l e ({ frames := 0, cells := 0, slots := 0, locals := 0 } : Room) s m #[(.ref o0)] below meth c s₁ [] 0 0 := Stand.of_body Bd
  have e0 : s₁.heap = h0 := by rw [← hh, Bd.state]; rfl
  have N0 := Fr.nil n0
  have K0 : Keep h0 h0 [] := Keep.refl h0 _
  show Runs p e below (QE s (Q_rm1_1 Z o0 k x0 h0 n0) ({ frames := 0, cells := 0, slots := 0, locals := 0 } : Room).cells ({ frames := 0, cells := 0, slots := 0, locals := 0 } : Room).slots) (s₁.setTop (entryFrame m #[(.ref o0)] 8))
  rw [ef_1_0 m o0]
  show Runs p e below _ (s₁.setTop (mkF m 0 #[.val (.ref o0), .unset, .unset, .unset, .unset, .unset, .unset, .unset] []))
  refine Runs.by (fun _ hr => XS.dconst0 X0.here hx rfl (hb hby d1_0) rfl hr) ?_
  show Runs p e below _ (s₁.setTop (mkF m 1 #[.val (.ref o0), .unset, .unset, .unset, .unset, .unset, .unset, .unset] [(.double FP.dconst0)]))
  refine Runs.by (fun _ hr => XS.dstoreN X0.here hx rfl (hb hby d1_1) rfl (l' := #[.val (.ref o0), .val (.double FP.dconst0), .second, .unset, .unset, .unset, .unset, .unset]) rfl hr) ?_
  show Runs p e below _ (s₁.setTop (mkF m 2 #[.val (.ref o0), .val (.double FP.dconst0), .second, .unset, .unset, .unset, .unset, .unset] []))
  refine Runs.by (fun _ hr => XS.aloadN X0.here hx rfl (hb hby d1_2) rfl rfl hr) ?_
  show Runs p e below _ (s₁.setTop (mkF m 3 #[.val (.ref o0), .val (.double FP.dconst0), .second, .unset, .unset, .unset, .unset, .unset] [(.ref o0)]))
  refine Runs.by (fun _ hr => XS.astoreN X0.here hx rfl (hb hby d1_3) rfl rfl (l' := #[.val (.ref o0), .val (.double FP.dconst0), .second, .val (.ref o0), .unset, .unset, .unset, .unset]) rfl hr) ?_
  show Runs p e below _ (s₁.setTop (mkF m 4 #[.val (.ref o0), .val (.double FP.dconst0), .second, .val (.ref o0), .unset, .unset, .unset, .unset] []))
  refine Runs.by (fun _ hr => XS.aloadN X0.here hx rfl (hb hby d1_4) rfl rfl hr) ?_
  show Runs p e below _ (s₁.setTop (mkF m 5 #[.val (.ref o0), .val (.double FP.dconst0), .second, .val (.ref o0), .unset, .unset, .unset, .unset] [(.ref o0)]))
  obtain ⟨cl1, Ar1, -, S1, N1', -, -⟩ := id V0
  refine Runs.by (fun t hr => X0.arraylength hx (by rw [e0]; exact Ar1.1) (State.isArrayOf_alike hZ.alike Ar1.2.1) (g := (mkF m 5 #[.val (.ref o0), .val (.double FP.dconst0), .second, .val (.ref o0), .unset, .unset, .unset, .unset] [(.ref o0)])) rfl rfl (hb hby d1_5) t hr) ?_
  rw [len_of S1 N1']
  show Runs p e below _ (s₁.setTop (mkF m 6 #[.val (.ref o0), .val (.double FP.dconst0), .second, .val (.ref o0), .unset, .unset, .unset, .unset] [(.int (1 : Int32))]))
  refine Runs.by (fun _ hr => XS.istore X0.here hx rfl (hb hby d1_6) rfl (l' := #[.val (.ref o0), .val (.double FP.dconst0), .second, .val (.ref o0), .val (.int (1 : Int32)), .unset, .unset, .unset]) rfl hr) ?_
  show Runs p e below _ (s₁.setTop (mkF m 8 #[.val (.ref o0), .val (.double FP.dconst0), .second, .val (.ref o0), .val (.int (1 : Int32)), .unset, .unset, .unset] []))
  refine Runs.by (fun _ hr => XS.iconst X0.here hx rfl (hb hby d1_8) hr) ?_
  show Runs p e below _ (s₁.setTop (mkF m 9 #[.val (.ref o0), .val (.double FP.dconst0), .second, .val (.ref o0), .val (.int (1 : Int32)), .unset, .unset, .unset] [(.int (0 : Int32))]))
  refine Runs.by (fun _ hr => XS.istore X0.here hx rfl (hb hby d1_9) rfl (l' := #[.val (.ref o0), .val (.double FP.dconst0), .second, .val (.ref o0), .val (.int (1 : Int32)), .val (.int (0 : Int32)), .unset, .unset]) rfl hr) ?_
  show Runs p e below _ (s₁.setTop (mkF m 11 #[.val (.ref o0), .val (.double FP.dconst0), .second, .val (.ref o0), .val (.int (1 : Int32)), .val (.int (0 : Int32)), .unset, .unset] []))
  refine Runs.by (fun _ hr => XS.iload X0.here hx rfl (hb hby d1_11) rfl  hr) ?_
  show Runs p e below _ (s₁.setTop (mkF m 13 #[.val (.ref o0), .val (.double FP.dconst0), .second, .val (.ref o0), .val (.int (1 : Int32)), .val (.int (0 : Int32)), .unset, .unset] [(.int (0 : Int32))]))
  refine Runs.by (fun _ hr => XS.iload X0.here hx rfl (hb hby d1_13) rfl  hr) ?_
  show Runs p e below _ (s₁.setTop (mkF m 15 #[.val (.ref o0), .val (.double FP.dconst0), .second, .val (.ref o0), .val (.int (1 : Int32)), .val (.int (0 : Int32)), .unset, .unset] [(.int (1 : Int32)), (.int (0 : Int32))]))
  have hc15 : (0 : Int32) < (1 : Int32) := (by decide)
  refine Runs.by (fun _ hr => XS.icmpNo X0.here hx rfl (hb hby d1_15) rfl (tlt hc15).2.1 hr) ?_
  show Runs p e below _ (s₁.setTop (mkF m 18 #[.val (.ref o0), .val (.double FP.dconst0), .second, .val (.ref o0), .val (.int (1 : Int32)), .val (.int (0 : Int32)), .unset, .unset] []))
  refine Runs.by (fun _ hr => XS.aloadN X0.here hx rfl (hb hby d1_18) rfl rfl hr) ?_
  show Runs p e below _ (s₁.setTop (mkF m 19 #[.val (.ref o0), .val (.double FP.dconst0), .second, .val (.ref o0), .val (.int (1 : Int32)), .val (.int (0 : Int32)), .unset, .unset] [(.ref o0)]))
  refine Runs.by (fun _ hr => XS.iload X0.here hx rfl (hb hby d1_19) rfl  hr) ?_
  show Runs p e below _ (s₁.setTop (mkF m 21 #[.val (.ref o0), .val (.double FP.dconst0), .second, .val (.ref o0), .val (.int (1 : Int32)), .val (.int (0 : Int32)), .unset, .unset] [(.int (0 : Int32)), (.ref o0)]))
  obtain ⟨cl2, Ar2, -, S2, N2', H2, -⟩ := id V0
  have hin2 : ¬ ((0 : Int32) < 0 ∨ cl2.slots.size ≤ ((0 : Int32)).toNatClampNeg) := inb_of S2 ⟨by decide, by decide⟩
  have hat2 := H2.at hin2 (v := (.double x0)) rfl
  refine Runs.by (fun t hr => X0.daload hx (j := (0 : Int32)) (v := (.double x0)) (by rw [e0]; exact Ar2.1) (State.isArrayOf_alike hZ.alike Ar2.2.1) Ar2.2.2 hin2 hat2 (g := (mkF m 21 #[.val (.ref o0), .val (.double FP.dconst0), .second, .val (.ref o0), .val (.int (1 : Int32)), .val (.int (0 : Int32)), .unset, .unset] [(.int (0 : Int32)), (.ref o0)])) rfl rfl (hb hby d1_21) t hr) ?_
  show Runs p e below _ (s₁.setTop (mkF m 22 #[.val (.ref o0), .val (.double FP.dconst0), .second, .val (.ref o0), .val (.int (1 : Int32)), .val (.int (0 : Int32)), .unset, .unset] [(.double x0)]))
  refine Runs.by (fun _ hr => XS.dstore X0.here hx rfl (hb hby d1_22) rfl (l' := #[.val (.ref o0), .val (.double FP.dconst0), .second, .val (.ref o0), .val (.int (1 : Int32)), .val (.int (0 : Int32)), .val (.double x0), .second]) rfl hr) ?_
  show Runs p e below _ (s₁.setTop (mkF m 24 #[.val (.ref o0), .val (.double FP.dconst0), .second, .val (.ref o0), .val (.int (1 : Int32)), .val (.int (0 : Int32)), .val (.double x0), .second] []))
  refine Runs.by (fun _ hr => XS.dloadN X0.here hx rfl (hb hby d1_24) rfl  hr) ?_
  show Runs p e below _ (s₁.setTop (mkF m 25 #[.val (.ref o0), .val (.double FP.dconst0), .second, .val (.ref o0), .val (.int (1 : Int32)), .val (.int (0 : Int32)), .val (.double x0), .second] [(.double FP.dconst0)]))
  refine Runs.by (fun _ hr => XS.dload X0.here hx rfl (hb hby d1_25) rfl  hr) ?_
  show Runs p e below _ (s₁.setTop (mkF m 27 #[.val (.ref o0), .val (.double FP.dconst0), .second, .val (.ref o0), .val (.int (1 : Int32)), .val (.int (0 : Int32)), .val (.double x0), .second] [(.double x0), (.double FP.dconst0)]))
  refine Runs.by (fun _ hr => XS.daddS X0.here hx rfl (hb hby d1_27) rfl (Jvm.Free.Fl.dadd_out own_d0 f0) rfl hr) ?_
  show Runs p e below _ (s₁.setTop (mkF m 28 #[.val (.ref o0), .val (.double FP.dconst0), .second, .val (.ref o0), .val (.int (1 : Int32)), .val (.int (0 : Int32)), .val (.double x0), .second] [(.double (FP.dadd FP.dconst0 x0))]))
  refine Runs.by (fun _ hr => XS.dstoreN X0.here hx rfl (hb hby d1_28) rfl (l' := #[.val (.ref o0), .val (.double (FP.dadd FP.dconst0 x0)), .second, .val (.ref o0), .val (.int (1 : Int32)), .val (.int (0 : Int32)), .val (.double x0), .second]) rfl hr) ?_
  show Runs p e below _ (s₁.setTop (mkF m 29 #[.val (.ref o0), .val (.double (FP.dadd FP.dconst0 x0)), .second, .val (.ref o0), .val (.int (1 : Int32)), .val (.int (0 : Int32)), .val (.double x0), .second] []))
  refine Runs.by (fun _ hr => XS.iinc X0.here hx rfl (hb hby d1_29) rfl (l' := #[.val (.ref o0), .val (.double (FP.dadd FP.dconst0 x0)), .second, .val (.ref o0), .val (.int (1 : Int32)), .val (.int (1 : Int32)), .val (.double x0), .second]) rfl hr) ?_
  show Runs p e below _ (s₁.setTop (mkF m 32 #[.val (.ref o0), .val (.double (FP.dadd FP.dconst0 x0)), .second, .val (.ref o0), .val (.int (1 : Int32)), .val (.int (1 : Int32)), .val (.double x0), .second] []))
  refine Runs.by (fun _ hr => XS.goto X0.here hx rfl (pc0 := 32) (pc' := 11) rfl (hb hby d1_32) (by decide) (by decide) hr) ?_
  show Runs p e below _ (s₁.setTop (mkF m 11 #[.val (.ref o0), .val (.double (FP.dadd FP.dconst0 x0)), .second, .val (.ref o0), .val (.int (1 : Int32)), .val (.int (1 : Int32)), .val (.double x0), .second] []))
  refine Runs.by (fun _ hr => XS.iload X0.here hx rfl (hb hby d1_11) rfl  hr) ?_
  show Runs p e below _ (s₁.setTop (mkF m 13 #[.val (.ref o0), .val (.double (FP.dadd FP.dconst0 x0)), .second, .val (.ref o0), .val (.int (1 : Int32)), .val (.int (1 : Int32)), .val (.double x0), .second] [(.int (1 : Int32))]))
  refine Runs.by (fun _ hr => XS.iload X0.here hx rfl (hb hby d1_13) rfl  hr) ?_
  show Runs p e below _ (s₁.setTop (mkF m 15 #[.val (.ref o0), .val (.double (FP.dadd FP.dconst0 x0)), .second, .val (.ref o0), .val (.int (1 : Int32)), .val (.int (1 : Int32)), .val (.double x0), .second] [(.int (1 : Int32)), (.int (1 : Int32))]))
  have hc15 : ¬ ((1 : Int32) < (1 : Int32)) := (by decide)
  refine Runs.by (fun _ hr => XS.icmpYes X0.here hx rfl (pc0 := 15) (pc' := 35) rfl (hb hby d1_15) rfl (flt hc15).2.1 (by decide) (by decide) hr) ?_
  show Runs p e below _ (s₁.setTop (mkF m 35 #[.val (.ref o0), .val (.double (FP.dadd FP.dconst0 x0)), .second, .val (.ref o0), .val (.int (1 : Int32)), .val (.int (1 : Int32)), .val (.double x0), .second] []))
  refine Runs.by (fun _ hr => XS.dloadN X0.here hx rfl (hb hby d1_35) rfl  hr) ?_
  show Runs p e below _ (s₁.setTop (mkF m 36 #[.val (.ref o0), .val (.double (FP.dadd FP.dconst0 x0)), .second, .val (.ref o0), .val (.int (1 : Int32)), .val (.int (1 : Int32)), .val (.double x0), .second] [(.double (FP.dadd FP.dconst0 x0))]))
  refine Runs.ret X0 hx hrt hlk (Or.inr (Or.inr (Or.inl ⟨rfl, rfl, _, rfl⟩))) rfl (hb hby d1_36) (by decide) (by decide) ?_
  rw [e0]
  exact ⟨rfl, N0, rfl⟩
def Q_rm1_2 (Z : State) (o0 : Addr) (k : ClassId) (x0 x1 : UInt64) (h0 : Heap) (n0 : Nat) (v : Option Value) (h : Heap) (L : List Loc) : Prop := v = some (.double (FP.dadd (FP.dadd FP.dconst0 x0) x1)) ∧ Fr n0 L ∧ h = h0
set_option maxRecDepth 65536 in
set_option maxHeartbeats 40000000 in
theorem rm1_2 (l : Launch) (Z : State) (a0 : Array Value) (hw : ∀ d ∈ tables_1, d.before a0 Z = true) (ws : List Jvm.Cond) (o0 : Addr) (k : ClassId) (x0 x1 : UInt64) (h0 : Heap) (n0 : Nat) (Z0 : n0 ≤ h0.size) (V0 : Arv Z h0 o0 k .double (2 : Int32) [(.double x0), (.double x1)] (.double (0 : UInt64))) (f0 : Jvm.Free.Fl.Fin64 x0) (f1 : Jvm.Free.Fl.Fin64 x1) :
    MetFree l (⟨"com/example/threshold/threshold/engine/Bm25", "sum", "([D)D"⟩ : MethodName) (head1 (Jvm.Cond.code (⟨"com/example/threshold/threshold/engine/Bm25", "sum", "([D)D"⟩ : MethodName) prog_2_method_7_code 8 (some .double) :: ws) ({ frames := 0, cells := 0, slots := 0, locals := 0 } : Room)) (fun a U => a = #[(.ref o0)] ∧ Z.Warmed39 U.vm ∧ U.heap = h0) (fun _ _ _ _ _ => True) (fun _ U o U' => ∃ v L, o = .returned v ∧ Q_rm1_2 Z o0 k x0 x1 h0 n0 v U'.heap L ∧ FrameEnd U o U' L ({ frames := 0, cells := 0, slots := 0, locals := 0 } : Room).cells ({ frames := 0, cells := 0, slots := 0, locals := 0 } : Room).slots) := by
  refine MetFree.of_bodySF (plainFor_of_name pn_com_example_threshold_threshold_engine_Bm25) hisR ?_
  intro p e s m args below meth c s₁ Bd hml0 hP hK
  obtain ⟨rfl, hZ, hh⟩ := hP
  have hx := Bd.exec
  have hby := Bd.bytes
  have hlk := BodyLoose.notSynchronized Bd
  have hrt := Bd.returns
  have hml : c.maxLocals = 8 := hml0
  have hown : s.vm.findClass "com/example/threshold/threshold/engine/Bm25" = some m.cls := findClass_of_methodNamed Bd.named
  have hnm := (name_of_methodNamed Bd.named Bd.method).1
  have X0 : Stand p l e ({ frames := 0, cells := 0, slots := 0, locals := 0 } : Room) s m #[(.ref o0)] below meth c s₁ [] 0 0 := Stand.of_body Bd
  have e0 : s₁.heap = h0 := by rw [← hh, Bd.state]; rfl
  have N0 := Fr.nil n0
  have K0 : Keep h0 h0 [] := Keep.refl h0 _
  show Runs p e below (QE s (Q_rm1_2 Z o0 k x0 x1 h0 n0) ({ frames := 0, cells := 0, slots := 0, locals := 0 } : Room).cells ({ frames := 0, cells := 0, slots := 0, locals := 0 } : Room).slots) (s₁.setTop (entryFrame m #[(.ref o0)] 8))
  rw [ef_1_0 m o0]
  show Runs p e below _ (s₁.setTop (mkF m 0 #[.val (.ref o0), .unset, .unset, .unset, .unset, .unset, .unset, .unset] []))
  refine Runs.by (fun _ hr => XS.dconst0 X0.here hx rfl (hb hby d1_0) rfl hr) ?_
  show Runs p e below _ (s₁.setTop (mkF m 1 #[.val (.ref o0), .unset, .unset, .unset, .unset, .unset, .unset, .unset] [(.double FP.dconst0)]))
  refine Runs.by (fun _ hr => XS.dstoreN X0.here hx rfl (hb hby d1_1) rfl (l' := #[.val (.ref o0), .val (.double FP.dconst0), .second, .unset, .unset, .unset, .unset, .unset]) rfl hr) ?_
  show Runs p e below _ (s₁.setTop (mkF m 2 #[.val (.ref o0), .val (.double FP.dconst0), .second, .unset, .unset, .unset, .unset, .unset] []))
  refine Runs.by (fun _ hr => XS.aloadN X0.here hx rfl (hb hby d1_2) rfl rfl hr) ?_
  show Runs p e below _ (s₁.setTop (mkF m 3 #[.val (.ref o0), .val (.double FP.dconst0), .second, .unset, .unset, .unset, .unset, .unset] [(.ref o0)]))
  refine Runs.by (fun _ hr => XS.astoreN X0.here hx rfl (hb hby d1_3) rfl rfl (l' := #[.val (.ref o0), .val (.double FP.dconst0), .second, .val (.ref o0), .unset, .unset, .unset, .unset]) rfl hr) ?_
  show Runs p e below _ (s₁.setTop (mkF m 4 #[.val (.ref o0), .val (.double FP.dconst0), .second, .val (.ref o0), .unset, .unset, .unset, .unset] []))
  refine Runs.by (fun _ hr => XS.aloadN X0.here hx rfl (hb hby d1_4) rfl rfl hr) ?_
  show Runs p e below _ (s₁.setTop (mkF m 5 #[.val (.ref o0), .val (.double FP.dconst0), .second, .val (.ref o0), .unset, .unset, .unset, .unset] [(.ref o0)]))
  obtain ⟨cl1, Ar1, -, S1, N1', -, -⟩ := id V0
  refine Runs.by (fun t hr => X0.arraylength hx (by rw [e0]; exact Ar1.1) (State.isArrayOf_alike hZ.alike Ar1.2.1) (g := (mkF m 5 #[.val (.ref o0), .val (.double FP.dconst0), .second, .val (.ref o0), .unset, .unset, .unset, .unset] [(.ref o0)])) rfl rfl (hb hby d1_5) t hr) ?_
  rw [len_of S1 N1']
  show Runs p e below _ (s₁.setTop (mkF m 6 #[.val (.ref o0), .val (.double FP.dconst0), .second, .val (.ref o0), .unset, .unset, .unset, .unset] [(.int (2 : Int32))]))
  refine Runs.by (fun _ hr => XS.istore X0.here hx rfl (hb hby d1_6) rfl (l' := #[.val (.ref o0), .val (.double FP.dconst0), .second, .val (.ref o0), .val (.int (2 : Int32)), .unset, .unset, .unset]) rfl hr) ?_
  show Runs p e below _ (s₁.setTop (mkF m 8 #[.val (.ref o0), .val (.double FP.dconst0), .second, .val (.ref o0), .val (.int (2 : Int32)), .unset, .unset, .unset] []))
  refine Runs.by (fun _ hr => XS.iconst X0.here hx rfl (hb hby d1_8) hr) ?_
  show Runs p e below _ (s₁.setTop (mkF m 9 #[.val (.ref o0), .val (.double FP.dconst0), .second, .val (.ref o0), .val (.int (2 : Int32)), .unset, .unset, .unset] [(.int (0 : Int32))]))
  refine Runs.by (fun _ hr => XS.istore X0.here hx rfl (hb hby d1_9) rfl (l' := #[.val (.ref o0), .val (.double FP.dconst0), .second, .val (.ref o0), .val (.int (2 : Int32)), .val (.int (0 : Int32)), .unset, .unset]) rfl hr) ?_
  show Runs p e below _ (s₁.setTop (mkF m 11 #[.val (.ref o0), .val (.double FP.dconst0), .second, .val (.ref o0), .val (.int (2 : Int32)), .val (.int (0 : Int32)), .unset, .unset] []))
  refine Runs.by (fun _ hr => XS.iload X0.here hx rfl (hb hby d1_11) rfl  hr) ?_
  show Runs p e below _ (s₁.setTop (mkF m 13 #[.val (.ref o0), .val (.double FP.dconst0), .second, .val (.ref o0), .val (.int (2 : Int32)), .val (.int (0 : Int32)), .unset, .unset] [(.int (0 : Int32))]))
  refine Runs.by (fun _ hr => XS.iload X0.here hx rfl (hb hby d1_13) rfl  hr) ?_
  show Runs p e below _ (s₁.setTop (mkF m 15 #[.val (.ref o0), .val (.double FP.dconst0), .second, .val (.ref o0), .val (.int (2 : Int32)), .val (.int (0 : Int32)), .unset, .unset] [(.int (2 : Int32)), (.int (0 : Int32))]))
  have hc15 : (0 : Int32) < (2 : Int32) := (by decide)
  refine Runs.by (fun _ hr => XS.icmpNo X0.here hx rfl (hb hby d1_15) rfl (tlt hc15).2.1 hr) ?_
  show Runs p e below _ (s₁.setTop (mkF m 18 #[.val (.ref o0), .val (.double FP.dconst0), .second, .val (.ref o0), .val (.int (2 : Int32)), .val (.int (0 : Int32)), .unset, .unset] []))
  refine Runs.by (fun _ hr => XS.aloadN X0.here hx rfl (hb hby d1_18) rfl rfl hr) ?_
  show Runs p e below _ (s₁.setTop (mkF m 19 #[.val (.ref o0), .val (.double FP.dconst0), .second, .val (.ref o0), .val (.int (2 : Int32)), .val (.int (0 : Int32)), .unset, .unset] [(.ref o0)]))
  refine Runs.by (fun _ hr => XS.iload X0.here hx rfl (hb hby d1_19) rfl  hr) ?_
  show Runs p e below _ (s₁.setTop (mkF m 21 #[.val (.ref o0), .val (.double FP.dconst0), .second, .val (.ref o0), .val (.int (2 : Int32)), .val (.int (0 : Int32)), .unset, .unset] [(.int (0 : Int32)), (.ref o0)]))
  obtain ⟨cl2, Ar2, -, S2, N2', H2, -⟩ := id V0
  have hin2 : ¬ ((0 : Int32) < 0 ∨ cl2.slots.size ≤ ((0 : Int32)).toNatClampNeg) := inb_of S2 ⟨by decide, by decide⟩
  have hat2 := H2.at hin2 (v := (.double x0)) rfl
  refine Runs.by (fun t hr => X0.daload hx (j := (0 : Int32)) (v := (.double x0)) (by rw [e0]; exact Ar2.1) (State.isArrayOf_alike hZ.alike Ar2.2.1) Ar2.2.2 hin2 hat2 (g := (mkF m 21 #[.val (.ref o0), .val (.double FP.dconst0), .second, .val (.ref o0), .val (.int (2 : Int32)), .val (.int (0 : Int32)), .unset, .unset] [(.int (0 : Int32)), (.ref o0)])) rfl rfl (hb hby d1_21) t hr) ?_
  show Runs p e below _ (s₁.setTop (mkF m 22 #[.val (.ref o0), .val (.double FP.dconst0), .second, .val (.ref o0), .val (.int (2 : Int32)), .val (.int (0 : Int32)), .unset, .unset] [(.double x0)]))
  refine Runs.by (fun _ hr => XS.dstore X0.here hx rfl (hb hby d1_22) rfl (l' := #[.val (.ref o0), .val (.double FP.dconst0), .second, .val (.ref o0), .val (.int (2 : Int32)), .val (.int (0 : Int32)), .val (.double x0), .second]) rfl hr) ?_
  show Runs p e below _ (s₁.setTop (mkF m 24 #[.val (.ref o0), .val (.double FP.dconst0), .second, .val (.ref o0), .val (.int (2 : Int32)), .val (.int (0 : Int32)), .val (.double x0), .second] []))
  refine Runs.by (fun _ hr => XS.dloadN X0.here hx rfl (hb hby d1_24) rfl  hr) ?_
  show Runs p e below _ (s₁.setTop (mkF m 25 #[.val (.ref o0), .val (.double FP.dconst0), .second, .val (.ref o0), .val (.int (2 : Int32)), .val (.int (0 : Int32)), .val (.double x0), .second] [(.double FP.dconst0)]))
  refine Runs.by (fun _ hr => XS.dload X0.here hx rfl (hb hby d1_25) rfl  hr) ?_
  show Runs p e below _ (s₁.setTop (mkF m 27 #[.val (.ref o0), .val (.double FP.dconst0), .second, .val (.ref o0), .val (.int (2 : Int32)), .val (.int (0 : Int32)), .val (.double x0), .second] [(.double x0), (.double FP.dconst0)]))
  refine Runs.by (fun _ hr => XS.daddS X0.here hx rfl (hb hby d1_27) rfl (Jvm.Free.Fl.dadd_out own_d0 f0) rfl hr) ?_
  show Runs p e below _ (s₁.setTop (mkF m 28 #[.val (.ref o0), .val (.double FP.dconst0), .second, .val (.ref o0), .val (.int (2 : Int32)), .val (.int (0 : Int32)), .val (.double x0), .second] [(.double (FP.dadd FP.dconst0 x0))]))
  refine Runs.by (fun _ hr => XS.dstoreN X0.here hx rfl (hb hby d1_28) rfl (l' := #[.val (.ref o0), .val (.double (FP.dadd FP.dconst0 x0)), .second, .val (.ref o0), .val (.int (2 : Int32)), .val (.int (0 : Int32)), .val (.double x0), .second]) rfl hr) ?_
  show Runs p e below _ (s₁.setTop (mkF m 29 #[.val (.ref o0), .val (.double (FP.dadd FP.dconst0 x0)), .second, .val (.ref o0), .val (.int (2 : Int32)), .val (.int (0 : Int32)), .val (.double x0), .second] []))
  refine Runs.by (fun _ hr => XS.iinc X0.here hx rfl (hb hby d1_29) rfl (l' := #[.val (.ref o0), .val (.double (FP.dadd FP.dconst0 x0)), .second, .val (.ref o0), .val (.int (2 : Int32)), .val (.int (1 : Int32)), .val (.double x0), .second]) rfl hr) ?_
  show Runs p e below _ (s₁.setTop (mkF m 32 #[.val (.ref o0), .val (.double (FP.dadd FP.dconst0 x0)), .second, .val (.ref o0), .val (.int (2 : Int32)), .val (.int (1 : Int32)), .val (.double x0), .second] []))
  refine Runs.by (fun _ hr => XS.goto X0.here hx rfl (pc0 := 32) (pc' := 11) rfl (hb hby d1_32) (by decide) (by decide) hr) ?_
  show Runs p e below _ (s₁.setTop (mkF m 11 #[.val (.ref o0), .val (.double (FP.dadd FP.dconst0 x0)), .second, .val (.ref o0), .val (.int (2 : Int32)), .val (.int (1 : Int32)), .val (.double x0), .second] []))
  refine Runs.by (fun _ hr => XS.iload X0.here hx rfl (hb hby d1_11) rfl  hr) ?_
  show Runs p e below _ (s₁.setTop (mkF m 13 #[.val (.ref o0), .val (.double (FP.dadd FP.dconst0 x0)), .second, .val (.ref o0), .val (.int (2 : Int32)), .val (.int (1 : Int32)), .val (.double x0), .second] [(.int (1 : Int32))]))
  refine Runs.by (fun _ hr => XS.iload X0.here hx rfl (hb hby d1_13) rfl  hr) ?_
  show Runs p e below _ (s₁.setTop (mkF m 15 #[.val (.ref o0), .val (.double (FP.dadd FP.dconst0 x0)), .second, .val (.ref o0), .val (.int (2 : Int32)), .val (.int (1 : Int32)), .val (.double x0), .second] [(.int (2 : Int32)), (.int (1 : Int32))]))
  have hc15 : (1 : Int32) < (2 : Int32) := (by decide)
  refine Runs.by (fun _ hr => XS.icmpNo X0.here hx rfl (hb hby d1_15) rfl (tlt hc15).2.1 hr) ?_
  show Runs p e below _ (s₁.setTop (mkF m 18 #[.val (.ref o0), .val (.double (FP.dadd FP.dconst0 x0)), .second, .val (.ref o0), .val (.int (2 : Int32)), .val (.int (1 : Int32)), .val (.double x0), .second] []))
  refine Runs.by (fun _ hr => XS.aloadN X0.here hx rfl (hb hby d1_18) rfl rfl hr) ?_
  show Runs p e below _ (s₁.setTop (mkF m 19 #[.val (.ref o0), .val (.double (FP.dadd FP.dconst0 x0)), .second, .val (.ref o0), .val (.int (2 : Int32)), .val (.int (1 : Int32)), .val (.double x0), .second] [(.ref o0)]))
  refine Runs.by (fun _ hr => XS.iload X0.here hx rfl (hb hby d1_19) rfl  hr) ?_
  show Runs p e below _ (s₁.setTop (mkF m 21 #[.val (.ref o0), .val (.double (FP.dadd FP.dconst0 x0)), .second, .val (.ref o0), .val (.int (2 : Int32)), .val (.int (1 : Int32)), .val (.double x0), .second] [(.int (1 : Int32)), (.ref o0)]))
  obtain ⟨cl3, Ar3, -, S3, N3', H3, -⟩ := id V0
  have hin3 : ¬ ((1 : Int32) < 0 ∨ cl3.slots.size ≤ ((1 : Int32)).toNatClampNeg) := inb_of S3 ⟨by decide, by decide⟩
  have hat3 := H3.at hin3 (v := (.double x1)) rfl
  refine Runs.by (fun t hr => X0.daload hx (j := (1 : Int32)) (v := (.double x1)) (by rw [e0]; exact Ar3.1) (State.isArrayOf_alike hZ.alike Ar3.2.1) Ar3.2.2 hin3 hat3 (g := (mkF m 21 #[.val (.ref o0), .val (.double (FP.dadd FP.dconst0 x0)), .second, .val (.ref o0), .val (.int (2 : Int32)), .val (.int (1 : Int32)), .val (.double x0), .second] [(.int (1 : Int32)), (.ref o0)])) rfl rfl (hb hby d1_21) t hr) ?_
  show Runs p e below _ (s₁.setTop (mkF m 22 #[.val (.ref o0), .val (.double (FP.dadd FP.dconst0 x0)), .second, .val (.ref o0), .val (.int (2 : Int32)), .val (.int (1 : Int32)), .val (.double x0), .second] [(.double x1)]))
  refine Runs.by (fun _ hr => XS.dstore X0.here hx rfl (hb hby d1_22) rfl (l' := #[.val (.ref o0), .val (.double (FP.dadd FP.dconst0 x0)), .second, .val (.ref o0), .val (.int (2 : Int32)), .val (.int (1 : Int32)), .val (.double x1), .second]) rfl hr) ?_
  show Runs p e below _ (s₁.setTop (mkF m 24 #[.val (.ref o0), .val (.double (FP.dadd FP.dconst0 x0)), .second, .val (.ref o0), .val (.int (2 : Int32)), .val (.int (1 : Int32)), .val (.double x1), .second] []))
  refine Runs.by (fun _ hr => XS.dloadN X0.here hx rfl (hb hby d1_24) rfl  hr) ?_
  show Runs p e below _ (s₁.setTop (mkF m 25 #[.val (.ref o0), .val (.double (FP.dadd FP.dconst0 x0)), .second, .val (.ref o0), .val (.int (2 : Int32)), .val (.int (1 : Int32)), .val (.double x1), .second] [(.double (FP.dadd FP.dconst0 x0))]))
  refine Runs.by (fun _ hr => XS.dload X0.here hx rfl (hb hby d1_25) rfl  hr) ?_
  show Runs p e below _ (s₁.setTop (mkF m 27 #[.val (.ref o0), .val (.double (FP.dadd FP.dconst0 x0)), .second, .val (.ref o0), .val (.int (2 : Int32)), .val (.int (1 : Int32)), .val (.double x1), .second] [(.double x1), (.double (FP.dadd FP.dconst0 x0))]))
  refine Runs.by (fun _ hr => XS.daddS X0.here hx rfl (hb hby d1_27) rfl (Jvm.Free.Fl.dadd_out (Jvm.Free.Fl.dadd_out own_d0 f0) f1) rfl hr) ?_
  show Runs p e below _ (s₁.setTop (mkF m 28 #[.val (.ref o0), .val (.double (FP.dadd FP.dconst0 x0)), .second, .val (.ref o0), .val (.int (2 : Int32)), .val (.int (1 : Int32)), .val (.double x1), .second] [(.double (FP.dadd (FP.dadd FP.dconst0 x0) x1))]))
  refine Runs.by (fun _ hr => XS.dstoreN X0.here hx rfl (hb hby d1_28) rfl (l' := #[.val (.ref o0), .val (.double (FP.dadd (FP.dadd FP.dconst0 x0) x1)), .second, .val (.ref o0), .val (.int (2 : Int32)), .val (.int (1 : Int32)), .val (.double x1), .second]) rfl hr) ?_
  show Runs p e below _ (s₁.setTop (mkF m 29 #[.val (.ref o0), .val (.double (FP.dadd (FP.dadd FP.dconst0 x0) x1)), .second, .val (.ref o0), .val (.int (2 : Int32)), .val (.int (1 : Int32)), .val (.double x1), .second] []))
  refine Runs.by (fun _ hr => XS.iinc X0.here hx rfl (hb hby d1_29) rfl (l' := #[.val (.ref o0), .val (.double (FP.dadd (FP.dadd FP.dconst0 x0) x1)), .second, .val (.ref o0), .val (.int (2 : Int32)), .val (.int (2 : Int32)), .val (.double x1), .second]) rfl hr) ?_
  show Runs p e below _ (s₁.setTop (mkF m 32 #[.val (.ref o0), .val (.double (FP.dadd (FP.dadd FP.dconst0 x0) x1)), .second, .val (.ref o0), .val (.int (2 : Int32)), .val (.int (2 : Int32)), .val (.double x1), .second] []))
  refine Runs.by (fun _ hr => XS.goto X0.here hx rfl (pc0 := 32) (pc' := 11) rfl (hb hby d1_32) (by decide) (by decide) hr) ?_
  show Runs p e below _ (s₁.setTop (mkF m 11 #[.val (.ref o0), .val (.double (FP.dadd (FP.dadd FP.dconst0 x0) x1)), .second, .val (.ref o0), .val (.int (2 : Int32)), .val (.int (2 : Int32)), .val (.double x1), .second] []))
  refine Runs.by (fun _ hr => XS.iload X0.here hx rfl (hb hby d1_11) rfl  hr) ?_
  show Runs p e below _ (s₁.setTop (mkF m 13 #[.val (.ref o0), .val (.double (FP.dadd (FP.dadd FP.dconst0 x0) x1)), .second, .val (.ref o0), .val (.int (2 : Int32)), .val (.int (2 : Int32)), .val (.double x1), .second] [(.int (2 : Int32))]))
  refine Runs.by (fun _ hr => XS.iload X0.here hx rfl (hb hby d1_13) rfl  hr) ?_
  show Runs p e below _ (s₁.setTop (mkF m 15 #[.val (.ref o0), .val (.double (FP.dadd (FP.dadd FP.dconst0 x0) x1)), .second, .val (.ref o0), .val (.int (2 : Int32)), .val (.int (2 : Int32)), .val (.double x1), .second] [(.int (2 : Int32)), (.int (2 : Int32))]))
  have hc15 : ¬ ((2 : Int32) < (2 : Int32)) := (by decide)
  refine Runs.by (fun _ hr => XS.icmpYes X0.here hx rfl (pc0 := 15) (pc' := 35) rfl (hb hby d1_15) rfl (flt hc15).2.1 (by decide) (by decide) hr) ?_
  show Runs p e below _ (s₁.setTop (mkF m 35 #[.val (.ref o0), .val (.double (FP.dadd (FP.dadd FP.dconst0 x0) x1)), .second, .val (.ref o0), .val (.int (2 : Int32)), .val (.int (2 : Int32)), .val (.double x1), .second] []))
  refine Runs.by (fun _ hr => XS.dloadN X0.here hx rfl (hb hby d1_35) rfl  hr) ?_
  show Runs p e below _ (s₁.setTop (mkF m 36 #[.val (.ref o0), .val (.double (FP.dadd (FP.dadd FP.dconst0 x0) x1)), .second, .val (.ref o0), .val (.int (2 : Int32)), .val (.int (2 : Int32)), .val (.double x1), .second] [(.double (FP.dadd (FP.dadd FP.dconst0 x0) x1))]))
  refine Runs.ret X0 hx hrt hlk (Or.inr (Or.inr (Or.inl ⟨rfl, rfl, _, rfl⟩))) rfl (hb hby d1_36) (by decide) (by decide) ?_
  rw [e0]
  exact ⟨rfl, N0, rfl⟩
def Q_rm1_3 (Z : State) (o0 : Addr) (k : ClassId) (x0 x1 x2 : UInt64) (h0 : Heap) (n0 : Nat) (v : Option Value) (h : Heap) (L : List Loc) : Prop := v = some (.double (FP.dadd (FP.dadd (FP.dadd FP.dconst0 x0) x1) x2)) ∧ Fr n0 L ∧ h = h0
set_option maxRecDepth 65536 in
set_option maxHeartbeats 40000000 in
theorem rm1_3 (l : Launch) (Z : State) (a0 : Array Value) (hw : ∀ d ∈ tables_1, d.before a0 Z = true) (ws : List Jvm.Cond) (o0 : Addr) (k : ClassId) (x0 x1 x2 : UInt64) (h0 : Heap) (n0 : Nat) (Z0 : n0 ≤ h0.size) (V0 : Arv Z h0 o0 k .double (3 : Int32) [(.double x0), (.double x1), (.double x2)] (.double (0 : UInt64))) (f0 : Jvm.Free.Fl.Fin64 x0) (f1 : Jvm.Free.Fl.Fin64 x1) (f2 : Jvm.Free.Fl.Fin64 x2) :
    MetFree l (⟨"com/example/threshold/threshold/engine/Bm25", "sum", "([D)D"⟩ : MethodName) (head1 (Jvm.Cond.code (⟨"com/example/threshold/threshold/engine/Bm25", "sum", "([D)D"⟩ : MethodName) prog_2_method_7_code 8 (some .double) :: ws) ({ frames := 0, cells := 0, slots := 0, locals := 0 } : Room)) (fun a U => a = #[(.ref o0)] ∧ Z.Warmed39 U.vm ∧ U.heap = h0) (fun _ _ _ _ _ => True) (fun _ U o U' => ∃ v L, o = .returned v ∧ Q_rm1_3 Z o0 k x0 x1 x2 h0 n0 v U'.heap L ∧ FrameEnd U o U' L ({ frames := 0, cells := 0, slots := 0, locals := 0 } : Room).cells ({ frames := 0, cells := 0, slots := 0, locals := 0 } : Room).slots) := by
  refine MetFree.of_bodySF (plainFor_of_name pn_com_example_threshold_threshold_engine_Bm25) hisR ?_
  intro p e s m args below meth c s₁ Bd hml0 hP hK
  obtain ⟨rfl, hZ, hh⟩ := hP
  have hx := Bd.exec
  have hby := Bd.bytes
  have hlk := BodyLoose.notSynchronized Bd
  have hrt := Bd.returns
  have hml : c.maxLocals = 8 := hml0
  have hown : s.vm.findClass "com/example/threshold/threshold/engine/Bm25" = some m.cls := findClass_of_methodNamed Bd.named
  have hnm := (name_of_methodNamed Bd.named Bd.method).1
  have X0 : Stand p l e ({ frames := 0, cells := 0, slots := 0, locals := 0 } : Room) s m #[(.ref o0)] below meth c s₁ [] 0 0 := Stand.of_body Bd
  have e0 : s₁.heap = h0 := by rw [← hh, Bd.state]; rfl
  have N0 := Fr.nil n0
  have K0 : Keep h0 h0 [] := Keep.refl h0 _
  show Runs p e below (QE s (Q_rm1_3 Z o0 k x0 x1 x2 h0 n0) ({ frames := 0, cells := 0, slots := 0, locals := 0 } : Room).cells ({ frames := 0, cells := 0, slots := 0, locals := 0 } : Room).slots) (s₁.setTop (entryFrame m #[(.ref o0)] 8))
  rw [ef_1_0 m o0]
  show Runs p e below _ (s₁.setTop (mkF m 0 #[.val (.ref o0), .unset, .unset, .unset, .unset, .unset, .unset, .unset] []))
  refine Runs.by (fun _ hr => XS.dconst0 X0.here hx rfl (hb hby d1_0) rfl hr) ?_
  show Runs p e below _ (s₁.setTop (mkF m 1 #[.val (.ref o0), .unset, .unset, .unset, .unset, .unset, .unset, .unset] [(.double FP.dconst0)]))
  refine Runs.by (fun _ hr => XS.dstoreN X0.here hx rfl (hb hby d1_1) rfl (l' := #[.val (.ref o0), .val (.double FP.dconst0), .second, .unset, .unset, .unset, .unset, .unset]) rfl hr) ?_
  show Runs p e below _ (s₁.setTop (mkF m 2 #[.val (.ref o0), .val (.double FP.dconst0), .second, .unset, .unset, .unset, .unset, .unset] []))
  refine Runs.by (fun _ hr => XS.aloadN X0.here hx rfl (hb hby d1_2) rfl rfl hr) ?_
  show Runs p e below _ (s₁.setTop (mkF m 3 #[.val (.ref o0), .val (.double FP.dconst0), .second, .unset, .unset, .unset, .unset, .unset] [(.ref o0)]))
  refine Runs.by (fun _ hr => XS.astoreN X0.here hx rfl (hb hby d1_3) rfl rfl (l' := #[.val (.ref o0), .val (.double FP.dconst0), .second, .val (.ref o0), .unset, .unset, .unset, .unset]) rfl hr) ?_
  show Runs p e below _ (s₁.setTop (mkF m 4 #[.val (.ref o0), .val (.double FP.dconst0), .second, .val (.ref o0), .unset, .unset, .unset, .unset] []))
  refine Runs.by (fun _ hr => XS.aloadN X0.here hx rfl (hb hby d1_4) rfl rfl hr) ?_
  show Runs p e below _ (s₁.setTop (mkF m 5 #[.val (.ref o0), .val (.double FP.dconst0), .second, .val (.ref o0), .unset, .unset, .unset, .unset] [(.ref o0)]))
  obtain ⟨cl1, Ar1, -, S1, N1', -, -⟩ := id V0
  refine Runs.by (fun t hr => X0.arraylength hx (by rw [e0]; exact Ar1.1) (State.isArrayOf_alike hZ.alike Ar1.2.1) (g := (mkF m 5 #[.val (.ref o0), .val (.double FP.dconst0), .second, .val (.ref o0), .unset, .unset, .unset, .unset] [(.ref o0)])) rfl rfl (hb hby d1_5) t hr) ?_
  rw [len_of S1 N1']
  show Runs p e below _ (s₁.setTop (mkF m 6 #[.val (.ref o0), .val (.double FP.dconst0), .second, .val (.ref o0), .unset, .unset, .unset, .unset] [(.int (3 : Int32))]))
  refine Runs.by (fun _ hr => XS.istore X0.here hx rfl (hb hby d1_6) rfl (l' := #[.val (.ref o0), .val (.double FP.dconst0), .second, .val (.ref o0), .val (.int (3 : Int32)), .unset, .unset, .unset]) rfl hr) ?_
  show Runs p e below _ (s₁.setTop (mkF m 8 #[.val (.ref o0), .val (.double FP.dconst0), .second, .val (.ref o0), .val (.int (3 : Int32)), .unset, .unset, .unset] []))
  refine Runs.by (fun _ hr => XS.iconst X0.here hx rfl (hb hby d1_8) hr) ?_
  show Runs p e below _ (s₁.setTop (mkF m 9 #[.val (.ref o0), .val (.double FP.dconst0), .second, .val (.ref o0), .val (.int (3 : Int32)), .unset, .unset, .unset] [(.int (0 : Int32))]))
  refine Runs.by (fun _ hr => XS.istore X0.here hx rfl (hb hby d1_9) rfl (l' := #[.val (.ref o0), .val (.double FP.dconst0), .second, .val (.ref o0), .val (.int (3 : Int32)), .val (.int (0 : Int32)), .unset, .unset]) rfl hr) ?_
  show Runs p e below _ (s₁.setTop (mkF m 11 #[.val (.ref o0), .val (.double FP.dconst0), .second, .val (.ref o0), .val (.int (3 : Int32)), .val (.int (0 : Int32)), .unset, .unset] []))
  refine Runs.by (fun _ hr => XS.iload X0.here hx rfl (hb hby d1_11) rfl  hr) ?_
  show Runs p e below _ (s₁.setTop (mkF m 13 #[.val (.ref o0), .val (.double FP.dconst0), .second, .val (.ref o0), .val (.int (3 : Int32)), .val (.int (0 : Int32)), .unset, .unset] [(.int (0 : Int32))]))
  refine Runs.by (fun _ hr => XS.iload X0.here hx rfl (hb hby d1_13) rfl  hr) ?_
  show Runs p e below _ (s₁.setTop (mkF m 15 #[.val (.ref o0), .val (.double FP.dconst0), .second, .val (.ref o0), .val (.int (3 : Int32)), .val (.int (0 : Int32)), .unset, .unset] [(.int (3 : Int32)), (.int (0 : Int32))]))
  have hc15 : (0 : Int32) < (3 : Int32) := (by decide)
  refine Runs.by (fun _ hr => XS.icmpNo X0.here hx rfl (hb hby d1_15) rfl (tlt hc15).2.1 hr) ?_
  show Runs p e below _ (s₁.setTop (mkF m 18 #[.val (.ref o0), .val (.double FP.dconst0), .second, .val (.ref o0), .val (.int (3 : Int32)), .val (.int (0 : Int32)), .unset, .unset] []))
  refine Runs.by (fun _ hr => XS.aloadN X0.here hx rfl (hb hby d1_18) rfl rfl hr) ?_
  show Runs p e below _ (s₁.setTop (mkF m 19 #[.val (.ref o0), .val (.double FP.dconst0), .second, .val (.ref o0), .val (.int (3 : Int32)), .val (.int (0 : Int32)), .unset, .unset] [(.ref o0)]))
  refine Runs.by (fun _ hr => XS.iload X0.here hx rfl (hb hby d1_19) rfl  hr) ?_
  show Runs p e below _ (s₁.setTop (mkF m 21 #[.val (.ref o0), .val (.double FP.dconst0), .second, .val (.ref o0), .val (.int (3 : Int32)), .val (.int (0 : Int32)), .unset, .unset] [(.int (0 : Int32)), (.ref o0)]))
  obtain ⟨cl2, Ar2, -, S2, N2', H2, -⟩ := id V0
  have hin2 : ¬ ((0 : Int32) < 0 ∨ cl2.slots.size ≤ ((0 : Int32)).toNatClampNeg) := inb_of S2 ⟨by decide, by decide⟩
  have hat2 := H2.at hin2 (v := (.double x0)) rfl
  refine Runs.by (fun t hr => X0.daload hx (j := (0 : Int32)) (v := (.double x0)) (by rw [e0]; exact Ar2.1) (State.isArrayOf_alike hZ.alike Ar2.2.1) Ar2.2.2 hin2 hat2 (g := (mkF m 21 #[.val (.ref o0), .val (.double FP.dconst0), .second, .val (.ref o0), .val (.int (3 : Int32)), .val (.int (0 : Int32)), .unset, .unset] [(.int (0 : Int32)), (.ref o0)])) rfl rfl (hb hby d1_21) t hr) ?_
  show Runs p e below _ (s₁.setTop (mkF m 22 #[.val (.ref o0), .val (.double FP.dconst0), .second, .val (.ref o0), .val (.int (3 : Int32)), .val (.int (0 : Int32)), .unset, .unset] [(.double x0)]))
  refine Runs.by (fun _ hr => XS.dstore X0.here hx rfl (hb hby d1_22) rfl (l' := #[.val (.ref o0), .val (.double FP.dconst0), .second, .val (.ref o0), .val (.int (3 : Int32)), .val (.int (0 : Int32)), .val (.double x0), .second]) rfl hr) ?_
  show Runs p e below _ (s₁.setTop (mkF m 24 #[.val (.ref o0), .val (.double FP.dconst0), .second, .val (.ref o0), .val (.int (3 : Int32)), .val (.int (0 : Int32)), .val (.double x0), .second] []))
  refine Runs.by (fun _ hr => XS.dloadN X0.here hx rfl (hb hby d1_24) rfl  hr) ?_
  show Runs p e below _ (s₁.setTop (mkF m 25 #[.val (.ref o0), .val (.double FP.dconst0), .second, .val (.ref o0), .val (.int (3 : Int32)), .val (.int (0 : Int32)), .val (.double x0), .second] [(.double FP.dconst0)]))
  refine Runs.by (fun _ hr => XS.dload X0.here hx rfl (hb hby d1_25) rfl  hr) ?_
  show Runs p e below _ (s₁.setTop (mkF m 27 #[.val (.ref o0), .val (.double FP.dconst0), .second, .val (.ref o0), .val (.int (3 : Int32)), .val (.int (0 : Int32)), .val (.double x0), .second] [(.double x0), (.double FP.dconst0)]))
  refine Runs.by (fun _ hr => XS.daddS X0.here hx rfl (hb hby d1_27) rfl (Jvm.Free.Fl.dadd_out own_d0 f0) rfl hr) ?_
  show Runs p e below _ (s₁.setTop (mkF m 28 #[.val (.ref o0), .val (.double FP.dconst0), .second, .val (.ref o0), .val (.int (3 : Int32)), .val (.int (0 : Int32)), .val (.double x0), .second] [(.double (FP.dadd FP.dconst0 x0))]))
  refine Runs.by (fun _ hr => XS.dstoreN X0.here hx rfl (hb hby d1_28) rfl (l' := #[.val (.ref o0), .val (.double (FP.dadd FP.dconst0 x0)), .second, .val (.ref o0), .val (.int (3 : Int32)), .val (.int (0 : Int32)), .val (.double x0), .second]) rfl hr) ?_
  show Runs p e below _ (s₁.setTop (mkF m 29 #[.val (.ref o0), .val (.double (FP.dadd FP.dconst0 x0)), .second, .val (.ref o0), .val (.int (3 : Int32)), .val (.int (0 : Int32)), .val (.double x0), .second] []))
  refine Runs.by (fun _ hr => XS.iinc X0.here hx rfl (hb hby d1_29) rfl (l' := #[.val (.ref o0), .val (.double (FP.dadd FP.dconst0 x0)), .second, .val (.ref o0), .val (.int (3 : Int32)), .val (.int (1 : Int32)), .val (.double x0), .second]) rfl hr) ?_
  show Runs p e below _ (s₁.setTop (mkF m 32 #[.val (.ref o0), .val (.double (FP.dadd FP.dconst0 x0)), .second, .val (.ref o0), .val (.int (3 : Int32)), .val (.int (1 : Int32)), .val (.double x0), .second] []))
  refine Runs.by (fun _ hr => XS.goto X0.here hx rfl (pc0 := 32) (pc' := 11) rfl (hb hby d1_32) (by decide) (by decide) hr) ?_
  show Runs p e below _ (s₁.setTop (mkF m 11 #[.val (.ref o0), .val (.double (FP.dadd FP.dconst0 x0)), .second, .val (.ref o0), .val (.int (3 : Int32)), .val (.int (1 : Int32)), .val (.double x0), .second] []))
  refine Runs.by (fun _ hr => XS.iload X0.here hx rfl (hb hby d1_11) rfl  hr) ?_
  show Runs p e below _ (s₁.setTop (mkF m 13 #[.val (.ref o0), .val (.double (FP.dadd FP.dconst0 x0)), .second, .val (.ref o0), .val (.int (3 : Int32)), .val (.int (1 : Int32)), .val (.double x0), .second] [(.int (1 : Int32))]))
  refine Runs.by (fun _ hr => XS.iload X0.here hx rfl (hb hby d1_13) rfl  hr) ?_
  show Runs p e below _ (s₁.setTop (mkF m 15 #[.val (.ref o0), .val (.double (FP.dadd FP.dconst0 x0)), .second, .val (.ref o0), .val (.int (3 : Int32)), .val (.int (1 : Int32)), .val (.double x0), .second] [(.int (3 : Int32)), (.int (1 : Int32))]))
  have hc15 : (1 : Int32) < (3 : Int32) := (by decide)
  refine Runs.by (fun _ hr => XS.icmpNo X0.here hx rfl (hb hby d1_15) rfl (tlt hc15).2.1 hr) ?_
  show Runs p e below _ (s₁.setTop (mkF m 18 #[.val (.ref o0), .val (.double (FP.dadd FP.dconst0 x0)), .second, .val (.ref o0), .val (.int (3 : Int32)), .val (.int (1 : Int32)), .val (.double x0), .second] []))
  refine Runs.by (fun _ hr => XS.aloadN X0.here hx rfl (hb hby d1_18) rfl rfl hr) ?_
  show Runs p e below _ (s₁.setTop (mkF m 19 #[.val (.ref o0), .val (.double (FP.dadd FP.dconst0 x0)), .second, .val (.ref o0), .val (.int (3 : Int32)), .val (.int (1 : Int32)), .val (.double x0), .second] [(.ref o0)]))
  refine Runs.by (fun _ hr => XS.iload X0.here hx rfl (hb hby d1_19) rfl  hr) ?_
  show Runs p e below _ (s₁.setTop (mkF m 21 #[.val (.ref o0), .val (.double (FP.dadd FP.dconst0 x0)), .second, .val (.ref o0), .val (.int (3 : Int32)), .val (.int (1 : Int32)), .val (.double x0), .second] [(.int (1 : Int32)), (.ref o0)]))
  obtain ⟨cl3, Ar3, -, S3, N3', H3, -⟩ := id V0
  have hin3 : ¬ ((1 : Int32) < 0 ∨ cl3.slots.size ≤ ((1 : Int32)).toNatClampNeg) := inb_of S3 ⟨by decide, by decide⟩
  have hat3 := H3.at hin3 (v := (.double x1)) rfl
  refine Runs.by (fun t hr => X0.daload hx (j := (1 : Int32)) (v := (.double x1)) (by rw [e0]; exact Ar3.1) (State.isArrayOf_alike hZ.alike Ar3.2.1) Ar3.2.2 hin3 hat3 (g := (mkF m 21 #[.val (.ref o0), .val (.double (FP.dadd FP.dconst0 x0)), .second, .val (.ref o0), .val (.int (3 : Int32)), .val (.int (1 : Int32)), .val (.double x0), .second] [(.int (1 : Int32)), (.ref o0)])) rfl rfl (hb hby d1_21) t hr) ?_
  show Runs p e below _ (s₁.setTop (mkF m 22 #[.val (.ref o0), .val (.double (FP.dadd FP.dconst0 x0)), .second, .val (.ref o0), .val (.int (3 : Int32)), .val (.int (1 : Int32)), .val (.double x0), .second] [(.double x1)]))
  refine Runs.by (fun _ hr => XS.dstore X0.here hx rfl (hb hby d1_22) rfl (l' := #[.val (.ref o0), .val (.double (FP.dadd FP.dconst0 x0)), .second, .val (.ref o0), .val (.int (3 : Int32)), .val (.int (1 : Int32)), .val (.double x1), .second]) rfl hr) ?_
  show Runs p e below _ (s₁.setTop (mkF m 24 #[.val (.ref o0), .val (.double (FP.dadd FP.dconst0 x0)), .second, .val (.ref o0), .val (.int (3 : Int32)), .val (.int (1 : Int32)), .val (.double x1), .second] []))
  refine Runs.by (fun _ hr => XS.dloadN X0.here hx rfl (hb hby d1_24) rfl  hr) ?_
  show Runs p e below _ (s₁.setTop (mkF m 25 #[.val (.ref o0), .val (.double (FP.dadd FP.dconst0 x0)), .second, .val (.ref o0), .val (.int (3 : Int32)), .val (.int (1 : Int32)), .val (.double x1), .second] [(.double (FP.dadd FP.dconst0 x0))]))
  refine Runs.by (fun _ hr => XS.dload X0.here hx rfl (hb hby d1_25) rfl  hr) ?_
  show Runs p e below _ (s₁.setTop (mkF m 27 #[.val (.ref o0), .val (.double (FP.dadd FP.dconst0 x0)), .second, .val (.ref o0), .val (.int (3 : Int32)), .val (.int (1 : Int32)), .val (.double x1), .second] [(.double x1), (.double (FP.dadd FP.dconst0 x0))]))
  refine Runs.by (fun _ hr => XS.daddS X0.here hx rfl (hb hby d1_27) rfl (Jvm.Free.Fl.dadd_out (Jvm.Free.Fl.dadd_out own_d0 f0) f1) rfl hr) ?_
  show Runs p e below _ (s₁.setTop (mkF m 28 #[.val (.ref o0), .val (.double (FP.dadd FP.dconst0 x0)), .second, .val (.ref o0), .val (.int (3 : Int32)), .val (.int (1 : Int32)), .val (.double x1), .second] [(.double (FP.dadd (FP.dadd FP.dconst0 x0) x1))]))
  refine Runs.by (fun _ hr => XS.dstoreN X0.here hx rfl (hb hby d1_28) rfl (l' := #[.val (.ref o0), .val (.double (FP.dadd (FP.dadd FP.dconst0 x0) x1)), .second, .val (.ref o0), .val (.int (3 : Int32)), .val (.int (1 : Int32)), .val (.double x1), .second]) rfl hr) ?_
  show Runs p e below _ (s₁.setTop (mkF m 29 #[.val (.ref o0), .val (.double (FP.dadd (FP.dadd FP.dconst0 x0) x1)), .second, .val (.ref o0), .val (.int (3 : Int32)), .val (.int (1 : Int32)), .val (.double x1), .second] []))
  refine Runs.by (fun _ hr => XS.iinc X0.here hx rfl (hb hby d1_29) rfl (l' := #[.val (.ref o0), .val (.double (FP.dadd (FP.dadd FP.dconst0 x0) x1)), .second, .val (.ref o0), .val (.int (3 : Int32)), .val (.int (2 : Int32)), .val (.double x1), .second]) rfl hr) ?_
  show Runs p e below _ (s₁.setTop (mkF m 32 #[.val (.ref o0), .val (.double (FP.dadd (FP.dadd FP.dconst0 x0) x1)), .second, .val (.ref o0), .val (.int (3 : Int32)), .val (.int (2 : Int32)), .val (.double x1), .second] []))
  refine Runs.by (fun _ hr => XS.goto X0.here hx rfl (pc0 := 32) (pc' := 11) rfl (hb hby d1_32) (by decide) (by decide) hr) ?_
  show Runs p e below _ (s₁.setTop (mkF m 11 #[.val (.ref o0), .val (.double (FP.dadd (FP.dadd FP.dconst0 x0) x1)), .second, .val (.ref o0), .val (.int (3 : Int32)), .val (.int (2 : Int32)), .val (.double x1), .second] []))
  refine Runs.by (fun _ hr => XS.iload X0.here hx rfl (hb hby d1_11) rfl  hr) ?_
  show Runs p e below _ (s₁.setTop (mkF m 13 #[.val (.ref o0), .val (.double (FP.dadd (FP.dadd FP.dconst0 x0) x1)), .second, .val (.ref o0), .val (.int (3 : Int32)), .val (.int (2 : Int32)), .val (.double x1), .second] [(.int (2 : Int32))]))
  refine Runs.by (fun _ hr => XS.iload X0.here hx rfl (hb hby d1_13) rfl  hr) ?_
  show Runs p e below _ (s₁.setTop (mkF m 15 #[.val (.ref o0), .val (.double (FP.dadd (FP.dadd FP.dconst0 x0) x1)), .second, .val (.ref o0), .val (.int (3 : Int32)), .val (.int (2 : Int32)), .val (.double x1), .second] [(.int (3 : Int32)), (.int (2 : Int32))]))
  have hc15 : (2 : Int32) < (3 : Int32) := (by decide)
  refine Runs.by (fun _ hr => XS.icmpNo X0.here hx rfl (hb hby d1_15) rfl (tlt hc15).2.1 hr) ?_
  show Runs p e below _ (s₁.setTop (mkF m 18 #[.val (.ref o0), .val (.double (FP.dadd (FP.dadd FP.dconst0 x0) x1)), .second, .val (.ref o0), .val (.int (3 : Int32)), .val (.int (2 : Int32)), .val (.double x1), .second] []))
  refine Runs.by (fun _ hr => XS.aloadN X0.here hx rfl (hb hby d1_18) rfl rfl hr) ?_
  show Runs p e below _ (s₁.setTop (mkF m 19 #[.val (.ref o0), .val (.double (FP.dadd (FP.dadd FP.dconst0 x0) x1)), .second, .val (.ref o0), .val (.int (3 : Int32)), .val (.int (2 : Int32)), .val (.double x1), .second] [(.ref o0)]))
  refine Runs.by (fun _ hr => XS.iload X0.here hx rfl (hb hby d1_19) rfl  hr) ?_
  show Runs p e below _ (s₁.setTop (mkF m 21 #[.val (.ref o0), .val (.double (FP.dadd (FP.dadd FP.dconst0 x0) x1)), .second, .val (.ref o0), .val (.int (3 : Int32)), .val (.int (2 : Int32)), .val (.double x1), .second] [(.int (2 : Int32)), (.ref o0)]))
  obtain ⟨cl4, Ar4, -, S4, N4', H4, -⟩ := id V0
  have hin4 : ¬ ((2 : Int32) < 0 ∨ cl4.slots.size ≤ ((2 : Int32)).toNatClampNeg) := inb_of S4 ⟨by decide, by decide⟩
  have hat4 := H4.at hin4 (v := (.double x2)) rfl
  refine Runs.by (fun t hr => X0.daload hx (j := (2 : Int32)) (v := (.double x2)) (by rw [e0]; exact Ar4.1) (State.isArrayOf_alike hZ.alike Ar4.2.1) Ar4.2.2 hin4 hat4 (g := (mkF m 21 #[.val (.ref o0), .val (.double (FP.dadd (FP.dadd FP.dconst0 x0) x1)), .second, .val (.ref o0), .val (.int (3 : Int32)), .val (.int (2 : Int32)), .val (.double x1), .second] [(.int (2 : Int32)), (.ref o0)])) rfl rfl (hb hby d1_21) t hr) ?_
  show Runs p e below _ (s₁.setTop (mkF m 22 #[.val (.ref o0), .val (.double (FP.dadd (FP.dadd FP.dconst0 x0) x1)), .second, .val (.ref o0), .val (.int (3 : Int32)), .val (.int (2 : Int32)), .val (.double x1), .second] [(.double x2)]))
  refine Runs.by (fun _ hr => XS.dstore X0.here hx rfl (hb hby d1_22) rfl (l' := #[.val (.ref o0), .val (.double (FP.dadd (FP.dadd FP.dconst0 x0) x1)), .second, .val (.ref o0), .val (.int (3 : Int32)), .val (.int (2 : Int32)), .val (.double x2), .second]) rfl hr) ?_
  show Runs p e below _ (s₁.setTop (mkF m 24 #[.val (.ref o0), .val (.double (FP.dadd (FP.dadd FP.dconst0 x0) x1)), .second, .val (.ref o0), .val (.int (3 : Int32)), .val (.int (2 : Int32)), .val (.double x2), .second] []))
  refine Runs.by (fun _ hr => XS.dloadN X0.here hx rfl (hb hby d1_24) rfl  hr) ?_
  show Runs p e below _ (s₁.setTop (mkF m 25 #[.val (.ref o0), .val (.double (FP.dadd (FP.dadd FP.dconst0 x0) x1)), .second, .val (.ref o0), .val (.int (3 : Int32)), .val (.int (2 : Int32)), .val (.double x2), .second] [(.double (FP.dadd (FP.dadd FP.dconst0 x0) x1))]))
  refine Runs.by (fun _ hr => XS.dload X0.here hx rfl (hb hby d1_25) rfl  hr) ?_
  show Runs p e below _ (s₁.setTop (mkF m 27 #[.val (.ref o0), .val (.double (FP.dadd (FP.dadd FP.dconst0 x0) x1)), .second, .val (.ref o0), .val (.int (3 : Int32)), .val (.int (2 : Int32)), .val (.double x2), .second] [(.double x2), (.double (FP.dadd (FP.dadd FP.dconst0 x0) x1))]))
  refine Runs.by (fun _ hr => XS.daddS X0.here hx rfl (hb hby d1_27) rfl (Jvm.Free.Fl.dadd_out (Jvm.Free.Fl.dadd_out (Jvm.Free.Fl.dadd_out own_d0 f0) f1) f2) rfl hr) ?_
  show Runs p e below _ (s₁.setTop (mkF m 28 #[.val (.ref o0), .val (.double (FP.dadd (FP.dadd FP.dconst0 x0) x1)), .second, .val (.ref o0), .val (.int (3 : Int32)), .val (.int (2 : Int32)), .val (.double x2), .second] [(.double (FP.dadd (FP.dadd (FP.dadd FP.dconst0 x0) x1) x2))]))
  refine Runs.by (fun _ hr => XS.dstoreN X0.here hx rfl (hb hby d1_28) rfl (l' := #[.val (.ref o0), .val (.double (FP.dadd (FP.dadd (FP.dadd FP.dconst0 x0) x1) x2)), .second, .val (.ref o0), .val (.int (3 : Int32)), .val (.int (2 : Int32)), .val (.double x2), .second]) rfl hr) ?_
  show Runs p e below _ (s₁.setTop (mkF m 29 #[.val (.ref o0), .val (.double (FP.dadd (FP.dadd (FP.dadd FP.dconst0 x0) x1) x2)), .second, .val (.ref o0), .val (.int (3 : Int32)), .val (.int (2 : Int32)), .val (.double x2), .second] []))
  refine Runs.by (fun _ hr => XS.iinc X0.here hx rfl (hb hby d1_29) rfl (l' := #[.val (.ref o0), .val (.double (FP.dadd (FP.dadd (FP.dadd FP.dconst0 x0) x1) x2)), .second, .val (.ref o0), .val (.int (3 : Int32)), .val (.int (3 : Int32)), .val (.double x2), .second]) rfl hr) ?_
  show Runs p e below _ (s₁.setTop (mkF m 32 #[.val (.ref o0), .val (.double (FP.dadd (FP.dadd (FP.dadd FP.dconst0 x0) x1) x2)), .second, .val (.ref o0), .val (.int (3 : Int32)), .val (.int (3 : Int32)), .val (.double x2), .second] []))
  refine Runs.by (fun _ hr => XS.goto X0.here hx rfl (pc0 := 32) (pc' := 11) rfl (hb hby d1_32) (by decide) (by decide) hr) ?_
  show Runs p e below _ (s₁.setTop (mkF m 11 #[.val (.ref o0), .val (.double (FP.dadd (FP.dadd (FP.dadd FP.dconst0 x0) x1) x2)), .second, .val (.ref o0), .val (.int (3 : Int32)), .val (.int (3 : Int32)), .val (.double x2), .second] []))
  refine Runs.by (fun _ hr => XS.iload X0.here hx rfl (hb hby d1_11) rfl  hr) ?_
  show Runs p e below _ (s₁.setTop (mkF m 13 #[.val (.ref o0), .val (.double (FP.dadd (FP.dadd (FP.dadd FP.dconst0 x0) x1) x2)), .second, .val (.ref o0), .val (.int (3 : Int32)), .val (.int (3 : Int32)), .val (.double x2), .second] [(.int (3 : Int32))]))
  refine Runs.by (fun _ hr => XS.iload X0.here hx rfl (hb hby d1_13) rfl  hr) ?_
  show Runs p e below _ (s₁.setTop (mkF m 15 #[.val (.ref o0), .val (.double (FP.dadd (FP.dadd (FP.dadd FP.dconst0 x0) x1) x2)), .second, .val (.ref o0), .val (.int (3 : Int32)), .val (.int (3 : Int32)), .val (.double x2), .second] [(.int (3 : Int32)), (.int (3 : Int32))]))
  have hc15 : ¬ ((3 : Int32) < (3 : Int32)) := (by decide)
  refine Runs.by (fun _ hr => XS.icmpYes X0.here hx rfl (pc0 := 15) (pc' := 35) rfl (hb hby d1_15) rfl (flt hc15).2.1 (by decide) (by decide) hr) ?_
  show Runs p e below _ (s₁.setTop (mkF m 35 #[.val (.ref o0), .val (.double (FP.dadd (FP.dadd (FP.dadd FP.dconst0 x0) x1) x2)), .second, .val (.ref o0), .val (.int (3 : Int32)), .val (.int (3 : Int32)), .val (.double x2), .second] []))
  refine Runs.by (fun _ hr => XS.dloadN X0.here hx rfl (hb hby d1_35) rfl  hr) ?_
  show Runs p e below _ (s₁.setTop (mkF m 36 #[.val (.ref o0), .val (.double (FP.dadd (FP.dadd (FP.dadd FP.dconst0 x0) x1) x2)), .second, .val (.ref o0), .val (.int (3 : Int32)), .val (.int (3 : Int32)), .val (.double x2), .second] [(.double (FP.dadd (FP.dadd (FP.dadd FP.dconst0 x0) x1) x2))]))
  refine Runs.ret X0 hx hrt hlk (Or.inr (Or.inr (Or.inl ⟨rfl, rfl, _, rfl⟩))) rfl (hb hby d1_36) (by decide) (by decide) ?_
  rw [e0]
  exact ⟨rfl, N0, rfl⟩
def Q_rm1_4 (Z : State) (o0 : Addr) (k : ClassId) (x0 x1 x2 x3 : UInt64) (h0 : Heap) (n0 : Nat) (v : Option Value) (h : Heap) (L : List Loc) : Prop := v = some (.double (FP.dadd (FP.dadd (FP.dadd (FP.dadd FP.dconst0 x0) x1) x2) x3)) ∧ Fr n0 L ∧ h = h0
set_option maxRecDepth 65536 in
set_option maxHeartbeats 40000000 in
theorem rm1_4 (l : Launch) (Z : State) (a0 : Array Value) (hw : ∀ d ∈ tables_1, d.before a0 Z = true) (ws : List Jvm.Cond) (o0 : Addr) (k : ClassId) (x0 x1 x2 x3 : UInt64) (h0 : Heap) (n0 : Nat) (Z0 : n0 ≤ h0.size) (V0 : Arv Z h0 o0 k .double (4 : Int32) [(.double x0), (.double x1), (.double x2), (.double x3)] (.double (0 : UInt64))) (f0 : Jvm.Free.Fl.Fin64 x0) (f1 : Jvm.Free.Fl.Fin64 x1) (f2 : Jvm.Free.Fl.Fin64 x2) (f3 : Jvm.Free.Fl.Fin64 x3) :
    MetFree l (⟨"com/example/threshold/threshold/engine/Bm25", "sum", "([D)D"⟩ : MethodName) (head1 (Jvm.Cond.code (⟨"com/example/threshold/threshold/engine/Bm25", "sum", "([D)D"⟩ : MethodName) prog_2_method_7_code 8 (some .double) :: ws) ({ frames := 0, cells := 0, slots := 0, locals := 0 } : Room)) (fun a U => a = #[(.ref o0)] ∧ Z.Warmed39 U.vm ∧ U.heap = h0) (fun _ _ _ _ _ => True) (fun _ U o U' => ∃ v L, o = .returned v ∧ Q_rm1_4 Z o0 k x0 x1 x2 x3 h0 n0 v U'.heap L ∧ FrameEnd U o U' L ({ frames := 0, cells := 0, slots := 0, locals := 0 } : Room).cells ({ frames := 0, cells := 0, slots := 0, locals := 0 } : Room).slots) := by
  refine MetFree.of_bodySF (plainFor_of_name pn_com_example_threshold_threshold_engine_Bm25) hisR ?_
  intro p e s m args below meth c s₁ Bd hml0 hP hK
  obtain ⟨rfl, hZ, hh⟩ := hP
  have hx := Bd.exec
  have hby := Bd.bytes
  have hlk := BodyLoose.notSynchronized Bd
  have hrt := Bd.returns
  have hml : c.maxLocals = 8 := hml0
  have hown : s.vm.findClass "com/example/threshold/threshold/engine/Bm25" = some m.cls := findClass_of_methodNamed Bd.named
  have hnm := (name_of_methodNamed Bd.named Bd.method).1
  have X0 : Stand p l e ({ frames := 0, cells := 0, slots := 0, locals := 0 } : Room) s m #[(.ref o0)] below meth c s₁ [] 0 0 := Stand.of_body Bd
  have e0 : s₁.heap = h0 := by rw [← hh, Bd.state]; rfl
  have N0 := Fr.nil n0
  have K0 : Keep h0 h0 [] := Keep.refl h0 _
  show Runs p e below (QE s (Q_rm1_4 Z o0 k x0 x1 x2 x3 h0 n0) ({ frames := 0, cells := 0, slots := 0, locals := 0 } : Room).cells ({ frames := 0, cells := 0, slots := 0, locals := 0 } : Room).slots) (s₁.setTop (entryFrame m #[(.ref o0)] 8))
  rw [ef_1_0 m o0]
  show Runs p e below _ (s₁.setTop (mkF m 0 #[.val (.ref o0), .unset, .unset, .unset, .unset, .unset, .unset, .unset] []))
  refine Runs.by (fun _ hr => XS.dconst0 X0.here hx rfl (hb hby d1_0) rfl hr) ?_
  show Runs p e below _ (s₁.setTop (mkF m 1 #[.val (.ref o0), .unset, .unset, .unset, .unset, .unset, .unset, .unset] [(.double FP.dconst0)]))
  refine Runs.by (fun _ hr => XS.dstoreN X0.here hx rfl (hb hby d1_1) rfl (l' := #[.val (.ref o0), .val (.double FP.dconst0), .second, .unset, .unset, .unset, .unset, .unset]) rfl hr) ?_
  show Runs p e below _ (s₁.setTop (mkF m 2 #[.val (.ref o0), .val (.double FP.dconst0), .second, .unset, .unset, .unset, .unset, .unset] []))
  refine Runs.by (fun _ hr => XS.aloadN X0.here hx rfl (hb hby d1_2) rfl rfl hr) ?_
  show Runs p e below _ (s₁.setTop (mkF m 3 #[.val (.ref o0), .val (.double FP.dconst0), .second, .unset, .unset, .unset, .unset, .unset] [(.ref o0)]))
  refine Runs.by (fun _ hr => XS.astoreN X0.here hx rfl (hb hby d1_3) rfl rfl (l' := #[.val (.ref o0), .val (.double FP.dconst0), .second, .val (.ref o0), .unset, .unset, .unset, .unset]) rfl hr) ?_
  show Runs p e below _ (s₁.setTop (mkF m 4 #[.val (.ref o0), .val (.double FP.dconst0), .second, .val (.ref o0), .unset, .unset, .unset, .unset] []))
  refine Runs.by (fun _ hr => XS.aloadN X0.here hx rfl (hb hby d1_4) rfl rfl hr) ?_
  show Runs p e below _ (s₁.setTop (mkF m 5 #[.val (.ref o0), .val (.double FP.dconst0), .second, .val (.ref o0), .unset, .unset, .unset, .unset] [(.ref o0)]))
  obtain ⟨cl1, Ar1, -, S1, N1', -, -⟩ := id V0
  refine Runs.by (fun t hr => X0.arraylength hx (by rw [e0]; exact Ar1.1) (State.isArrayOf_alike hZ.alike Ar1.2.1) (g := (mkF m 5 #[.val (.ref o0), .val (.double FP.dconst0), .second, .val (.ref o0), .unset, .unset, .unset, .unset] [(.ref o0)])) rfl rfl (hb hby d1_5) t hr) ?_
  rw [len_of S1 N1']
  show Runs p e below _ (s₁.setTop (mkF m 6 #[.val (.ref o0), .val (.double FP.dconst0), .second, .val (.ref o0), .unset, .unset, .unset, .unset] [(.int (4 : Int32))]))
  refine Runs.by (fun _ hr => XS.istore X0.here hx rfl (hb hby d1_6) rfl (l' := #[.val (.ref o0), .val (.double FP.dconst0), .second, .val (.ref o0), .val (.int (4 : Int32)), .unset, .unset, .unset]) rfl hr) ?_
  show Runs p e below _ (s₁.setTop (mkF m 8 #[.val (.ref o0), .val (.double FP.dconst0), .second, .val (.ref o0), .val (.int (4 : Int32)), .unset, .unset, .unset] []))
  refine Runs.by (fun _ hr => XS.iconst X0.here hx rfl (hb hby d1_8) hr) ?_
  show Runs p e below _ (s₁.setTop (mkF m 9 #[.val (.ref o0), .val (.double FP.dconst0), .second, .val (.ref o0), .val (.int (4 : Int32)), .unset, .unset, .unset] [(.int (0 : Int32))]))
  refine Runs.by (fun _ hr => XS.istore X0.here hx rfl (hb hby d1_9) rfl (l' := #[.val (.ref o0), .val (.double FP.dconst0), .second, .val (.ref o0), .val (.int (4 : Int32)), .val (.int (0 : Int32)), .unset, .unset]) rfl hr) ?_
  show Runs p e below _ (s₁.setTop (mkF m 11 #[.val (.ref o0), .val (.double FP.dconst0), .second, .val (.ref o0), .val (.int (4 : Int32)), .val (.int (0 : Int32)), .unset, .unset] []))
  refine Runs.by (fun _ hr => XS.iload X0.here hx rfl (hb hby d1_11) rfl  hr) ?_
  show Runs p e below _ (s₁.setTop (mkF m 13 #[.val (.ref o0), .val (.double FP.dconst0), .second, .val (.ref o0), .val (.int (4 : Int32)), .val (.int (0 : Int32)), .unset, .unset] [(.int (0 : Int32))]))
  refine Runs.by (fun _ hr => XS.iload X0.here hx rfl (hb hby d1_13) rfl  hr) ?_
  show Runs p e below _ (s₁.setTop (mkF m 15 #[.val (.ref o0), .val (.double FP.dconst0), .second, .val (.ref o0), .val (.int (4 : Int32)), .val (.int (0 : Int32)), .unset, .unset] [(.int (4 : Int32)), (.int (0 : Int32))]))
  have hc15 : (0 : Int32) < (4 : Int32) := (by decide)
  refine Runs.by (fun _ hr => XS.icmpNo X0.here hx rfl (hb hby d1_15) rfl (tlt hc15).2.1 hr) ?_
  show Runs p e below _ (s₁.setTop (mkF m 18 #[.val (.ref o0), .val (.double FP.dconst0), .second, .val (.ref o0), .val (.int (4 : Int32)), .val (.int (0 : Int32)), .unset, .unset] []))
  refine Runs.by (fun _ hr => XS.aloadN X0.here hx rfl (hb hby d1_18) rfl rfl hr) ?_
  show Runs p e below _ (s₁.setTop (mkF m 19 #[.val (.ref o0), .val (.double FP.dconst0), .second, .val (.ref o0), .val (.int (4 : Int32)), .val (.int (0 : Int32)), .unset, .unset] [(.ref o0)]))
  refine Runs.by (fun _ hr => XS.iload X0.here hx rfl (hb hby d1_19) rfl  hr) ?_
  show Runs p e below _ (s₁.setTop (mkF m 21 #[.val (.ref o0), .val (.double FP.dconst0), .second, .val (.ref o0), .val (.int (4 : Int32)), .val (.int (0 : Int32)), .unset, .unset] [(.int (0 : Int32)), (.ref o0)]))
  obtain ⟨cl2, Ar2, -, S2, N2', H2, -⟩ := id V0
  have hin2 : ¬ ((0 : Int32) < 0 ∨ cl2.slots.size ≤ ((0 : Int32)).toNatClampNeg) := inb_of S2 ⟨by decide, by decide⟩
  have hat2 := H2.at hin2 (v := (.double x0)) rfl
  refine Runs.by (fun t hr => X0.daload hx (j := (0 : Int32)) (v := (.double x0)) (by rw [e0]; exact Ar2.1) (State.isArrayOf_alike hZ.alike Ar2.2.1) Ar2.2.2 hin2 hat2 (g := (mkF m 21 #[.val (.ref o0), .val (.double FP.dconst0), .second, .val (.ref o0), .val (.int (4 : Int32)), .val (.int (0 : Int32)), .unset, .unset] [(.int (0 : Int32)), (.ref o0)])) rfl rfl (hb hby d1_21) t hr) ?_
  show Runs p e below _ (s₁.setTop (mkF m 22 #[.val (.ref o0), .val (.double FP.dconst0), .second, .val (.ref o0), .val (.int (4 : Int32)), .val (.int (0 : Int32)), .unset, .unset] [(.double x0)]))
  refine Runs.by (fun _ hr => XS.dstore X0.here hx rfl (hb hby d1_22) rfl (l' := #[.val (.ref o0), .val (.double FP.dconst0), .second, .val (.ref o0), .val (.int (4 : Int32)), .val (.int (0 : Int32)), .val (.double x0), .second]) rfl hr) ?_
  show Runs p e below _ (s₁.setTop (mkF m 24 #[.val (.ref o0), .val (.double FP.dconst0), .second, .val (.ref o0), .val (.int (4 : Int32)), .val (.int (0 : Int32)), .val (.double x0), .second] []))
  refine Runs.by (fun _ hr => XS.dloadN X0.here hx rfl (hb hby d1_24) rfl  hr) ?_
  show Runs p e below _ (s₁.setTop (mkF m 25 #[.val (.ref o0), .val (.double FP.dconst0), .second, .val (.ref o0), .val (.int (4 : Int32)), .val (.int (0 : Int32)), .val (.double x0), .second] [(.double FP.dconst0)]))
  refine Runs.by (fun _ hr => XS.dload X0.here hx rfl (hb hby d1_25) rfl  hr) ?_
  show Runs p e below _ (s₁.setTop (mkF m 27 #[.val (.ref o0), .val (.double FP.dconst0), .second, .val (.ref o0), .val (.int (4 : Int32)), .val (.int (0 : Int32)), .val (.double x0), .second] [(.double x0), (.double FP.dconst0)]))
  refine Runs.by (fun _ hr => XS.daddS X0.here hx rfl (hb hby d1_27) rfl (Jvm.Free.Fl.dadd_out own_d0 f0) rfl hr) ?_
  show Runs p e below _ (s₁.setTop (mkF m 28 #[.val (.ref o0), .val (.double FP.dconst0), .second, .val (.ref o0), .val (.int (4 : Int32)), .val (.int (0 : Int32)), .val (.double x0), .second] [(.double (FP.dadd FP.dconst0 x0))]))
  refine Runs.by (fun _ hr => XS.dstoreN X0.here hx rfl (hb hby d1_28) rfl (l' := #[.val (.ref o0), .val (.double (FP.dadd FP.dconst0 x0)), .second, .val (.ref o0), .val (.int (4 : Int32)), .val (.int (0 : Int32)), .val (.double x0), .second]) rfl hr) ?_
  show Runs p e below _ (s₁.setTop (mkF m 29 #[.val (.ref o0), .val (.double (FP.dadd FP.dconst0 x0)), .second, .val (.ref o0), .val (.int (4 : Int32)), .val (.int (0 : Int32)), .val (.double x0), .second] []))
  refine Runs.by (fun _ hr => XS.iinc X0.here hx rfl (hb hby d1_29) rfl (l' := #[.val (.ref o0), .val (.double (FP.dadd FP.dconst0 x0)), .second, .val (.ref o0), .val (.int (4 : Int32)), .val (.int (1 : Int32)), .val (.double x0), .second]) rfl hr) ?_
  show Runs p e below _ (s₁.setTop (mkF m 32 #[.val (.ref o0), .val (.double (FP.dadd FP.dconst0 x0)), .second, .val (.ref o0), .val (.int (4 : Int32)), .val (.int (1 : Int32)), .val (.double x0), .second] []))
  refine Runs.by (fun _ hr => XS.goto X0.here hx rfl (pc0 := 32) (pc' := 11) rfl (hb hby d1_32) (by decide) (by decide) hr) ?_
  show Runs p e below _ (s₁.setTop (mkF m 11 #[.val (.ref o0), .val (.double (FP.dadd FP.dconst0 x0)), .second, .val (.ref o0), .val (.int (4 : Int32)), .val (.int (1 : Int32)), .val (.double x0), .second] []))
  refine Runs.by (fun _ hr => XS.iload X0.here hx rfl (hb hby d1_11) rfl  hr) ?_
  show Runs p e below _ (s₁.setTop (mkF m 13 #[.val (.ref o0), .val (.double (FP.dadd FP.dconst0 x0)), .second, .val (.ref o0), .val (.int (4 : Int32)), .val (.int (1 : Int32)), .val (.double x0), .second] [(.int (1 : Int32))]))
  refine Runs.by (fun _ hr => XS.iload X0.here hx rfl (hb hby d1_13) rfl  hr) ?_
  show Runs p e below _ (s₁.setTop (mkF m 15 #[.val (.ref o0), .val (.double (FP.dadd FP.dconst0 x0)), .second, .val (.ref o0), .val (.int (4 : Int32)), .val (.int (1 : Int32)), .val (.double x0), .second] [(.int (4 : Int32)), (.int (1 : Int32))]))
  have hc15 : (1 : Int32) < (4 : Int32) := (by decide)
  refine Runs.by (fun _ hr => XS.icmpNo X0.here hx rfl (hb hby d1_15) rfl (tlt hc15).2.1 hr) ?_
  show Runs p e below _ (s₁.setTop (mkF m 18 #[.val (.ref o0), .val (.double (FP.dadd FP.dconst0 x0)), .second, .val (.ref o0), .val (.int (4 : Int32)), .val (.int (1 : Int32)), .val (.double x0), .second] []))
  refine Runs.by (fun _ hr => XS.aloadN X0.here hx rfl (hb hby d1_18) rfl rfl hr) ?_
  show Runs p e below _ (s₁.setTop (mkF m 19 #[.val (.ref o0), .val (.double (FP.dadd FP.dconst0 x0)), .second, .val (.ref o0), .val (.int (4 : Int32)), .val (.int (1 : Int32)), .val (.double x0), .second] [(.ref o0)]))
  refine Runs.by (fun _ hr => XS.iload X0.here hx rfl (hb hby d1_19) rfl  hr) ?_
  show Runs p e below _ (s₁.setTop (mkF m 21 #[.val (.ref o0), .val (.double (FP.dadd FP.dconst0 x0)), .second, .val (.ref o0), .val (.int (4 : Int32)), .val (.int (1 : Int32)), .val (.double x0), .second] [(.int (1 : Int32)), (.ref o0)]))
  obtain ⟨cl3, Ar3, -, S3, N3', H3, -⟩ := id V0
  have hin3 : ¬ ((1 : Int32) < 0 ∨ cl3.slots.size ≤ ((1 : Int32)).toNatClampNeg) := inb_of S3 ⟨by decide, by decide⟩
  have hat3 := H3.at hin3 (v := (.double x1)) rfl
  refine Runs.by (fun t hr => X0.daload hx (j := (1 : Int32)) (v := (.double x1)) (by rw [e0]; exact Ar3.1) (State.isArrayOf_alike hZ.alike Ar3.2.1) Ar3.2.2 hin3 hat3 (g := (mkF m 21 #[.val (.ref o0), .val (.double (FP.dadd FP.dconst0 x0)), .second, .val (.ref o0), .val (.int (4 : Int32)), .val (.int (1 : Int32)), .val (.double x0), .second] [(.int (1 : Int32)), (.ref o0)])) rfl rfl (hb hby d1_21) t hr) ?_
  show Runs p e below _ (s₁.setTop (mkF m 22 #[.val (.ref o0), .val (.double (FP.dadd FP.dconst0 x0)), .second, .val (.ref o0), .val (.int (4 : Int32)), .val (.int (1 : Int32)), .val (.double x0), .second] [(.double x1)]))
  refine Runs.by (fun _ hr => XS.dstore X0.here hx rfl (hb hby d1_22) rfl (l' := #[.val (.ref o0), .val (.double (FP.dadd FP.dconst0 x0)), .second, .val (.ref o0), .val (.int (4 : Int32)), .val (.int (1 : Int32)), .val (.double x1), .second]) rfl hr) ?_
  show Runs p e below _ (s₁.setTop (mkF m 24 #[.val (.ref o0), .val (.double (FP.dadd FP.dconst0 x0)), .second, .val (.ref o0), .val (.int (4 : Int32)), .val (.int (1 : Int32)), .val (.double x1), .second] []))
  refine Runs.by (fun _ hr => XS.dloadN X0.here hx rfl (hb hby d1_24) rfl  hr) ?_
  show Runs p e below _ (s₁.setTop (mkF m 25 #[.val (.ref o0), .val (.double (FP.dadd FP.dconst0 x0)), .second, .val (.ref o0), .val (.int (4 : Int32)), .val (.int (1 : Int32)), .val (.double x1), .second] [(.double (FP.dadd FP.dconst0 x0))]))
  refine Runs.by (fun _ hr => XS.dload X0.here hx rfl (hb hby d1_25) rfl  hr) ?_
  show Runs p e below _ (s₁.setTop (mkF m 27 #[.val (.ref o0), .val (.double (FP.dadd FP.dconst0 x0)), .second, .val (.ref o0), .val (.int (4 : Int32)), .val (.int (1 : Int32)), .val (.double x1), .second] [(.double x1), (.double (FP.dadd FP.dconst0 x0))]))
  refine Runs.by (fun _ hr => XS.daddS X0.here hx rfl (hb hby d1_27) rfl (Jvm.Free.Fl.dadd_out (Jvm.Free.Fl.dadd_out own_d0 f0) f1) rfl hr) ?_
  show Runs p e below _ (s₁.setTop (mkF m 28 #[.val (.ref o0), .val (.double (FP.dadd FP.dconst0 x0)), .second, .val (.ref o0), .val (.int (4 : Int32)), .val (.int (1 : Int32)), .val (.double x1), .second] [(.double (FP.dadd (FP.dadd FP.dconst0 x0) x1))]))
  refine Runs.by (fun _ hr => XS.dstoreN X0.here hx rfl (hb hby d1_28) rfl (l' := #[.val (.ref o0), .val (.double (FP.dadd (FP.dadd FP.dconst0 x0) x1)), .second, .val (.ref o0), .val (.int (4 : Int32)), .val (.int (1 : Int32)), .val (.double x1), .second]) rfl hr) ?_
  show Runs p e below _ (s₁.setTop (mkF m 29 #[.val (.ref o0), .val (.double (FP.dadd (FP.dadd FP.dconst0 x0) x1)), .second, .val (.ref o0), .val (.int (4 : Int32)), .val (.int (1 : Int32)), .val (.double x1), .second] []))
  refine Runs.by (fun _ hr => XS.iinc X0.here hx rfl (hb hby d1_29) rfl (l' := #[.val (.ref o0), .val (.double (FP.dadd (FP.dadd FP.dconst0 x0) x1)), .second, .val (.ref o0), .val (.int (4 : Int32)), .val (.int (2 : Int32)), .val (.double x1), .second]) rfl hr) ?_
  show Runs p e below _ (s₁.setTop (mkF m 32 #[.val (.ref o0), .val (.double (FP.dadd (FP.dadd FP.dconst0 x0) x1)), .second, .val (.ref o0), .val (.int (4 : Int32)), .val (.int (2 : Int32)), .val (.double x1), .second] []))
  refine Runs.by (fun _ hr => XS.goto X0.here hx rfl (pc0 := 32) (pc' := 11) rfl (hb hby d1_32) (by decide) (by decide) hr) ?_
  show Runs p e below _ (s₁.setTop (mkF m 11 #[.val (.ref o0), .val (.double (FP.dadd (FP.dadd FP.dconst0 x0) x1)), .second, .val (.ref o0), .val (.int (4 : Int32)), .val (.int (2 : Int32)), .val (.double x1), .second] []))
  refine Runs.by (fun _ hr => XS.iload X0.here hx rfl (hb hby d1_11) rfl  hr) ?_
  show Runs p e below _ (s₁.setTop (mkF m 13 #[.val (.ref o0), .val (.double (FP.dadd (FP.dadd FP.dconst0 x0) x1)), .second, .val (.ref o0), .val (.int (4 : Int32)), .val (.int (2 : Int32)), .val (.double x1), .second] [(.int (2 : Int32))]))
  refine Runs.by (fun _ hr => XS.iload X0.here hx rfl (hb hby d1_13) rfl  hr) ?_
  show Runs p e below _ (s₁.setTop (mkF m 15 #[.val (.ref o0), .val (.double (FP.dadd (FP.dadd FP.dconst0 x0) x1)), .second, .val (.ref o0), .val (.int (4 : Int32)), .val (.int (2 : Int32)), .val (.double x1), .second] [(.int (4 : Int32)), (.int (2 : Int32))]))
  have hc15 : (2 : Int32) < (4 : Int32) := (by decide)
  refine Runs.by (fun _ hr => XS.icmpNo X0.here hx rfl (hb hby d1_15) rfl (tlt hc15).2.1 hr) ?_
  show Runs p e below _ (s₁.setTop (mkF m 18 #[.val (.ref o0), .val (.double (FP.dadd (FP.dadd FP.dconst0 x0) x1)), .second, .val (.ref o0), .val (.int (4 : Int32)), .val (.int (2 : Int32)), .val (.double x1), .second] []))
  refine Runs.by (fun _ hr => XS.aloadN X0.here hx rfl (hb hby d1_18) rfl rfl hr) ?_
  show Runs p e below _ (s₁.setTop (mkF m 19 #[.val (.ref o0), .val (.double (FP.dadd (FP.dadd FP.dconst0 x0) x1)), .second, .val (.ref o0), .val (.int (4 : Int32)), .val (.int (2 : Int32)), .val (.double x1), .second] [(.ref o0)]))
  refine Runs.by (fun _ hr => XS.iload X0.here hx rfl (hb hby d1_19) rfl  hr) ?_
  show Runs p e below _ (s₁.setTop (mkF m 21 #[.val (.ref o0), .val (.double (FP.dadd (FP.dadd FP.dconst0 x0) x1)), .second, .val (.ref o0), .val (.int (4 : Int32)), .val (.int (2 : Int32)), .val (.double x1), .second] [(.int (2 : Int32)), (.ref o0)]))
  obtain ⟨cl4, Ar4, -, S4, N4', H4, -⟩ := id V0
  have hin4 : ¬ ((2 : Int32) < 0 ∨ cl4.slots.size ≤ ((2 : Int32)).toNatClampNeg) := inb_of S4 ⟨by decide, by decide⟩
  have hat4 := H4.at hin4 (v := (.double x2)) rfl
  refine Runs.by (fun t hr => X0.daload hx (j := (2 : Int32)) (v := (.double x2)) (by rw [e0]; exact Ar4.1) (State.isArrayOf_alike hZ.alike Ar4.2.1) Ar4.2.2 hin4 hat4 (g := (mkF m 21 #[.val (.ref o0), .val (.double (FP.dadd (FP.dadd FP.dconst0 x0) x1)), .second, .val (.ref o0), .val (.int (4 : Int32)), .val (.int (2 : Int32)), .val (.double x1), .second] [(.int (2 : Int32)), (.ref o0)])) rfl rfl (hb hby d1_21) t hr) ?_
  show Runs p e below _ (s₁.setTop (mkF m 22 #[.val (.ref o0), .val (.double (FP.dadd (FP.dadd FP.dconst0 x0) x1)), .second, .val (.ref o0), .val (.int (4 : Int32)), .val (.int (2 : Int32)), .val (.double x1), .second] [(.double x2)]))
  refine Runs.by (fun _ hr => XS.dstore X0.here hx rfl (hb hby d1_22) rfl (l' := #[.val (.ref o0), .val (.double (FP.dadd (FP.dadd FP.dconst0 x0) x1)), .second, .val (.ref o0), .val (.int (4 : Int32)), .val (.int (2 : Int32)), .val (.double x2), .second]) rfl hr) ?_
  show Runs p e below _ (s₁.setTop (mkF m 24 #[.val (.ref o0), .val (.double (FP.dadd (FP.dadd FP.dconst0 x0) x1)), .second, .val (.ref o0), .val (.int (4 : Int32)), .val (.int (2 : Int32)), .val (.double x2), .second] []))
  refine Runs.by (fun _ hr => XS.dloadN X0.here hx rfl (hb hby d1_24) rfl  hr) ?_
  show Runs p e below _ (s₁.setTop (mkF m 25 #[.val (.ref o0), .val (.double (FP.dadd (FP.dadd FP.dconst0 x0) x1)), .second, .val (.ref o0), .val (.int (4 : Int32)), .val (.int (2 : Int32)), .val (.double x2), .second] [(.double (FP.dadd (FP.dadd FP.dconst0 x0) x1))]))
  refine Runs.by (fun _ hr => XS.dload X0.here hx rfl (hb hby d1_25) rfl  hr) ?_
  show Runs p e below _ (s₁.setTop (mkF m 27 #[.val (.ref o0), .val (.double (FP.dadd (FP.dadd FP.dconst0 x0) x1)), .second, .val (.ref o0), .val (.int (4 : Int32)), .val (.int (2 : Int32)), .val (.double x2), .second] [(.double x2), (.double (FP.dadd (FP.dadd FP.dconst0 x0) x1))]))
  refine Runs.by (fun _ hr => XS.daddS X0.here hx rfl (hb hby d1_27) rfl (Jvm.Free.Fl.dadd_out (Jvm.Free.Fl.dadd_out (Jvm.Free.Fl.dadd_out own_d0 f0) f1) f2) rfl hr) ?_
  show Runs p e below _ (s₁.setTop (mkF m 28 #[.val (.ref o0), .val (.double (FP.dadd (FP.dadd FP.dconst0 x0) x1)), .second, .val (.ref o0), .val (.int (4 : Int32)), .val (.int (2 : Int32)), .val (.double x2), .second] [(.double (FP.dadd (FP.dadd (FP.dadd FP.dconst0 x0) x1) x2))]))
  refine Runs.by (fun _ hr => XS.dstoreN X0.here hx rfl (hb hby d1_28) rfl (l' := #[.val (.ref o0), .val (.double (FP.dadd (FP.dadd (FP.dadd FP.dconst0 x0) x1) x2)), .second, .val (.ref o0), .val (.int (4 : Int32)), .val (.int (2 : Int32)), .val (.double x2), .second]) rfl hr) ?_
  show Runs p e below _ (s₁.setTop (mkF m 29 #[.val (.ref o0), .val (.double (FP.dadd (FP.dadd (FP.dadd FP.dconst0 x0) x1) x2)), .second, .val (.ref o0), .val (.int (4 : Int32)), .val (.int (2 : Int32)), .val (.double x2), .second] []))
  refine Runs.by (fun _ hr => XS.iinc X0.here hx rfl (hb hby d1_29) rfl (l' := #[.val (.ref o0), .val (.double (FP.dadd (FP.dadd (FP.dadd FP.dconst0 x0) x1) x2)), .second, .val (.ref o0), .val (.int (4 : Int32)), .val (.int (3 : Int32)), .val (.double x2), .second]) rfl hr) ?_
  show Runs p e below _ (s₁.setTop (mkF m 32 #[.val (.ref o0), .val (.double (FP.dadd (FP.dadd (FP.dadd FP.dconst0 x0) x1) x2)), .second, .val (.ref o0), .val (.int (4 : Int32)), .val (.int (3 : Int32)), .val (.double x2), .second] []))
  refine Runs.by (fun _ hr => XS.goto X0.here hx rfl (pc0 := 32) (pc' := 11) rfl (hb hby d1_32) (by decide) (by decide) hr) ?_
  show Runs p e below _ (s₁.setTop (mkF m 11 #[.val (.ref o0), .val (.double (FP.dadd (FP.dadd (FP.dadd FP.dconst0 x0) x1) x2)), .second, .val (.ref o0), .val (.int (4 : Int32)), .val (.int (3 : Int32)), .val (.double x2), .second] []))
  refine Runs.by (fun _ hr => XS.iload X0.here hx rfl (hb hby d1_11) rfl  hr) ?_
  show Runs p e below _ (s₁.setTop (mkF m 13 #[.val (.ref o0), .val (.double (FP.dadd (FP.dadd (FP.dadd FP.dconst0 x0) x1) x2)), .second, .val (.ref o0), .val (.int (4 : Int32)), .val (.int (3 : Int32)), .val (.double x2), .second] [(.int (3 : Int32))]))
  refine Runs.by (fun _ hr => XS.iload X0.here hx rfl (hb hby d1_13) rfl  hr) ?_
  show Runs p e below _ (s₁.setTop (mkF m 15 #[.val (.ref o0), .val (.double (FP.dadd (FP.dadd (FP.dadd FP.dconst0 x0) x1) x2)), .second, .val (.ref o0), .val (.int (4 : Int32)), .val (.int (3 : Int32)), .val (.double x2), .second] [(.int (4 : Int32)), (.int (3 : Int32))]))
  have hc15 : (3 : Int32) < (4 : Int32) := (by decide)
  refine Runs.by (fun _ hr => XS.icmpNo X0.here hx rfl (hb hby d1_15) rfl (tlt hc15).2.1 hr) ?_
  show Runs p e below _ (s₁.setTop (mkF m 18 #[.val (.ref o0), .val (.double (FP.dadd (FP.dadd (FP.dadd FP.dconst0 x0) x1) x2)), .second, .val (.ref o0), .val (.int (4 : Int32)), .val (.int (3 : Int32)), .val (.double x2), .second] []))
  refine Runs.by (fun _ hr => XS.aloadN X0.here hx rfl (hb hby d1_18) rfl rfl hr) ?_
  show Runs p e below _ (s₁.setTop (mkF m 19 #[.val (.ref o0), .val (.double (FP.dadd (FP.dadd (FP.dadd FP.dconst0 x0) x1) x2)), .second, .val (.ref o0), .val (.int (4 : Int32)), .val (.int (3 : Int32)), .val (.double x2), .second] [(.ref o0)]))
  refine Runs.by (fun _ hr => XS.iload X0.here hx rfl (hb hby d1_19) rfl  hr) ?_
  show Runs p e below _ (s₁.setTop (mkF m 21 #[.val (.ref o0), .val (.double (FP.dadd (FP.dadd (FP.dadd FP.dconst0 x0) x1) x2)), .second, .val (.ref o0), .val (.int (4 : Int32)), .val (.int (3 : Int32)), .val (.double x2), .second] [(.int (3 : Int32)), (.ref o0)]))
  obtain ⟨cl5, Ar5, -, S5, N5', H5, -⟩ := id V0
  have hin5 : ¬ ((3 : Int32) < 0 ∨ cl5.slots.size ≤ ((3 : Int32)).toNatClampNeg) := inb_of S5 ⟨by decide, by decide⟩
  have hat5 := H5.at hin5 (v := (.double x3)) rfl
  refine Runs.by (fun t hr => X0.daload hx (j := (3 : Int32)) (v := (.double x3)) (by rw [e0]; exact Ar5.1) (State.isArrayOf_alike hZ.alike Ar5.2.1) Ar5.2.2 hin5 hat5 (g := (mkF m 21 #[.val (.ref o0), .val (.double (FP.dadd (FP.dadd (FP.dadd FP.dconst0 x0) x1) x2)), .second, .val (.ref o0), .val (.int (4 : Int32)), .val (.int (3 : Int32)), .val (.double x2), .second] [(.int (3 : Int32)), (.ref o0)])) rfl rfl (hb hby d1_21) t hr) ?_
  show Runs p e below _ (s₁.setTop (mkF m 22 #[.val (.ref o0), .val (.double (FP.dadd (FP.dadd (FP.dadd FP.dconst0 x0) x1) x2)), .second, .val (.ref o0), .val (.int (4 : Int32)), .val (.int (3 : Int32)), .val (.double x2), .second] [(.double x3)]))
  refine Runs.by (fun _ hr => XS.dstore X0.here hx rfl (hb hby d1_22) rfl (l' := #[.val (.ref o0), .val (.double (FP.dadd (FP.dadd (FP.dadd FP.dconst0 x0) x1) x2)), .second, .val (.ref o0), .val (.int (4 : Int32)), .val (.int (3 : Int32)), .val (.double x3), .second]) rfl hr) ?_
  show Runs p e below _ (s₁.setTop (mkF m 24 #[.val (.ref o0), .val (.double (FP.dadd (FP.dadd (FP.dadd FP.dconst0 x0) x1) x2)), .second, .val (.ref o0), .val (.int (4 : Int32)), .val (.int (3 : Int32)), .val (.double x3), .second] []))
  refine Runs.by (fun _ hr => XS.dloadN X0.here hx rfl (hb hby d1_24) rfl  hr) ?_
  show Runs p e below _ (s₁.setTop (mkF m 25 #[.val (.ref o0), .val (.double (FP.dadd (FP.dadd (FP.dadd FP.dconst0 x0) x1) x2)), .second, .val (.ref o0), .val (.int (4 : Int32)), .val (.int (3 : Int32)), .val (.double x3), .second] [(.double (FP.dadd (FP.dadd (FP.dadd FP.dconst0 x0) x1) x2))]))
  refine Runs.by (fun _ hr => XS.dload X0.here hx rfl (hb hby d1_25) rfl  hr) ?_
  show Runs p e below _ (s₁.setTop (mkF m 27 #[.val (.ref o0), .val (.double (FP.dadd (FP.dadd (FP.dadd FP.dconst0 x0) x1) x2)), .second, .val (.ref o0), .val (.int (4 : Int32)), .val (.int (3 : Int32)), .val (.double x3), .second] [(.double x3), (.double (FP.dadd (FP.dadd (FP.dadd FP.dconst0 x0) x1) x2))]))
  refine Runs.by (fun _ hr => XS.daddS X0.here hx rfl (hb hby d1_27) rfl (Jvm.Free.Fl.dadd_out (Jvm.Free.Fl.dadd_out (Jvm.Free.Fl.dadd_out (Jvm.Free.Fl.dadd_out own_d0 f0) f1) f2) f3) rfl hr) ?_
  show Runs p e below _ (s₁.setTop (mkF m 28 #[.val (.ref o0), .val (.double (FP.dadd (FP.dadd (FP.dadd FP.dconst0 x0) x1) x2)), .second, .val (.ref o0), .val (.int (4 : Int32)), .val (.int (3 : Int32)), .val (.double x3), .second] [(.double (FP.dadd (FP.dadd (FP.dadd (FP.dadd FP.dconst0 x0) x1) x2) x3))]))
  refine Runs.by (fun _ hr => XS.dstoreN X0.here hx rfl (hb hby d1_28) rfl (l' := #[.val (.ref o0), .val (.double (FP.dadd (FP.dadd (FP.dadd (FP.dadd FP.dconst0 x0) x1) x2) x3)), .second, .val (.ref o0), .val (.int (4 : Int32)), .val (.int (3 : Int32)), .val (.double x3), .second]) rfl hr) ?_
  show Runs p e below _ (s₁.setTop (mkF m 29 #[.val (.ref o0), .val (.double (FP.dadd (FP.dadd (FP.dadd (FP.dadd FP.dconst0 x0) x1) x2) x3)), .second, .val (.ref o0), .val (.int (4 : Int32)), .val (.int (3 : Int32)), .val (.double x3), .second] []))
  refine Runs.by (fun _ hr => XS.iinc X0.here hx rfl (hb hby d1_29) rfl (l' := #[.val (.ref o0), .val (.double (FP.dadd (FP.dadd (FP.dadd (FP.dadd FP.dconst0 x0) x1) x2) x3)), .second, .val (.ref o0), .val (.int (4 : Int32)), .val (.int (4 : Int32)), .val (.double x3), .second]) rfl hr) ?_
  show Runs p e below _ (s₁.setTop (mkF m 32 #[.val (.ref o0), .val (.double (FP.dadd (FP.dadd (FP.dadd (FP.dadd FP.dconst0 x0) x1) x2) x3)), .second, .val (.ref o0), .val (.int (4 : Int32)), .val (.int (4 : Int32)), .val (.double x3), .second] []))
  refine Runs.by (fun _ hr => XS.goto X0.here hx rfl (pc0 := 32) (pc' := 11) rfl (hb hby d1_32) (by decide) (by decide) hr) ?_
  show Runs p e below _ (s₁.setTop (mkF m 11 #[.val (.ref o0), .val (.double (FP.dadd (FP.dadd (FP.dadd (FP.dadd FP.dconst0 x0) x1) x2) x3)), .second, .val (.ref o0), .val (.int (4 : Int32)), .val (.int (4 : Int32)), .val (.double x3), .second] []))
  refine Runs.by (fun _ hr => XS.iload X0.here hx rfl (hb hby d1_11) rfl  hr) ?_
  show Runs p e below _ (s₁.setTop (mkF m 13 #[.val (.ref o0), .val (.double (FP.dadd (FP.dadd (FP.dadd (FP.dadd FP.dconst0 x0) x1) x2) x3)), .second, .val (.ref o0), .val (.int (4 : Int32)), .val (.int (4 : Int32)), .val (.double x3), .second] [(.int (4 : Int32))]))
  refine Runs.by (fun _ hr => XS.iload X0.here hx rfl (hb hby d1_13) rfl  hr) ?_
  show Runs p e below _ (s₁.setTop (mkF m 15 #[.val (.ref o0), .val (.double (FP.dadd (FP.dadd (FP.dadd (FP.dadd FP.dconst0 x0) x1) x2) x3)), .second, .val (.ref o0), .val (.int (4 : Int32)), .val (.int (4 : Int32)), .val (.double x3), .second] [(.int (4 : Int32)), (.int (4 : Int32))]))
  have hc15 : ¬ ((4 : Int32) < (4 : Int32)) := (by decide)
  refine Runs.by (fun _ hr => XS.icmpYes X0.here hx rfl (pc0 := 15) (pc' := 35) rfl (hb hby d1_15) rfl (flt hc15).2.1 (by decide) (by decide) hr) ?_
  show Runs p e below _ (s₁.setTop (mkF m 35 #[.val (.ref o0), .val (.double (FP.dadd (FP.dadd (FP.dadd (FP.dadd FP.dconst0 x0) x1) x2) x3)), .second, .val (.ref o0), .val (.int (4 : Int32)), .val (.int (4 : Int32)), .val (.double x3), .second] []))
  refine Runs.by (fun _ hr => XS.dloadN X0.here hx rfl (hb hby d1_35) rfl  hr) ?_
  show Runs p e below _ (s₁.setTop (mkF m 36 #[.val (.ref o0), .val (.double (FP.dadd (FP.dadd (FP.dadd (FP.dadd FP.dconst0 x0) x1) x2) x3)), .second, .val (.ref o0), .val (.int (4 : Int32)), .val (.int (4 : Int32)), .val (.double x3), .second] [(.double (FP.dadd (FP.dadd (FP.dadd (FP.dadd FP.dconst0 x0) x1) x2) x3))]))
  refine Runs.ret X0 hx hrt hlk (Or.inr (Or.inr (Or.inl ⟨rfl, rfl, _, rfl⟩))) rfl (hb hby d1_36) (by decide) (by decide) ?_
  rw [e0]
  exact ⟨rfl, N0, rfl⟩
theorem ef_0_1 (m : MethodId) (p0 : Int32) (q1 : Int64) (q2 : Int64) (q3 : Int64) (q4 : Int64) : entryFrame m #[(.int p0), (.long q1), (.long q2), (.long q3), (.long q4)] maxLocals = mkF m 0 #[.val (.int p0), .val (.long q1), .second, .val (.long q2), .second, .val (.long q3), .second, .val (.long q4), .second, .unset, .unset, .unset, .unset, .unset, .unset, .unset, .unset, .unset, .unset, .unset, .unset, .unset, .unset] [] := by first | (simp [entryFrame, mkF, argsToLocals, Value.category, maxLocals]; done) | rfl
theorem pn_com_example_threshold_threshold_engine_Bm25SumPinLaw : plainName "com/example/threshold/threshold/engine/Bm25SumPinLaw" = true := by first | (simp [plainName, overriddenIn]; done) | decide +kernel
def Q_rm0 (Z : State) (p0 : Int32) (q1 : Int64) (q2 : Int64) (q3 : Int64) (q4 : Int64)  (h0 : Heap) (n0 : Nat) (v : Option Value) (h : Heap) (L : List Loc) : Prop := v = some (.int 1) ∧ Fr n0 L
theorem pd_0 : parseMethodDescriptor "([D)D" = some ⟨[(.array .double)], some .double⟩ := by decide +kernel
set_option maxRecDepth 65536 in
set_option maxHeartbeats 40000000 in
theorem rm0 (l : Launch) (Z : State) (a0 : Array Value) (hw : ∀ d ∈ tables_1, d.before a0 Z = true) (ws : List Jvm.Cond) (p0 : Int32) (q1 : Int64) (q2 : Int64) (q3 : Int64) (q4 : Int64)  (h0 : Heap) (n0 : Nat) (Z0 : n0 ≤ h0.size) :
    MetFree l x (head1 (Jvm.Cond.code x code maxLocals ret :: ws) room_1) (fun a U => a = #[(.int p0), (.long q1), (.long q2), (.long q3), (.long q4)] ∧ Z.Warmed39 U.vm ∧ U.heap = h0) (fun _ _ _ _ _ => True) (fun _ U o U' => ∃ v L, o = .returned v ∧ Q_rm0 Z p0 q1 q2 q3 q4 h0 n0 v U'.heap L ∧ FrameEnd U o U' L room_1.cells room_1.slots) := by
  refine MetFree.of_bodySF (plainFor_of_name pn_com_example_threshold_threshold_engine_Bm25SumPinLaw) hisR ?_
  intro p e s m args below meth c s₁ Bd hml0 hP hK
  obtain ⟨rfl, hZ, hh⟩ := hP
  have hx := Bd.exec
  have hby := Bd.bytes
  have hlk := BodyLoose.notSynchronized Bd
  have hrt := Bd.returns
  have hml : c.maxLocals = 23 := hml0
  have hown : s.vm.findClass "com/example/threshold/threshold/engine/Bm25SumPinLaw" = some m.cls := findClass_of_methodNamed Bd.named
  have hnm := (name_of_methodNamed Bd.named Bd.method).1
  have X0 : Stand p l e room_1 s m #[(.int p0), (.long q1), (.long q2), (.long q3), (.long q4)] below meth c s₁ [] 0 0 := Stand.of_body Bd
  have e0 : s₁.heap = h0 := by rw [← hh, Bd.state]; rfl
  have N0 := Fr.nil n0
  have K0 : Keep h0 h0 [] := Keep.refl h0 _
  show Runs p e below (QE s (Q_rm0 Z p0 q1 q2 q3 q4 h0 n0) room_1.cells room_1.slots) (s₁.setTop (entryFrame m #[(.int p0), (.long q1), (.long q2), (.long q3), (.long q4)] maxLocals))
  rw [ef_0_1 m p0 q1 q2 q3 q4]
  show Runs p e below _ (s₁.setTop (mkF m 0 #[.val (.int p0), .val (.long q1), .second, .val (.long q2), .second, .val (.long q3), .second, .val (.long q4), .second, .unset, .unset, .unset, .unset, .unset, .unset, .unset, .unset, .unset, .unset, .unset, .unset, .unset, .unset] []))
  refine Runs.by (fun _ hr => XS.iloadN X0.here hx rfl (hb hby at_0) rfl  hr) ?_
  show Runs p e below _ (s₁.setTop (mkF m 1 #[.val (.int p0), .val (.long q1), .second, .val (.long q2), .second, .val (.long q3), .second, .val (.long q4), .second, .unset, .unset, .unset, .unset, .unset, .unset, .unset, .unset, .unset, .unset, .unset, .unset, .unset, .unset] [(.int p0)]))
  refine Runs.by (fun _ hr => X0.ldcI hx hown (mvT hZ (hw _ (List.mem_of_getElem? (i := 0) rfl))) (g := (mkF m 1 #[.val (.int p0), .val (.long q1), .second, .val (.long q2), .second, .val (.long q3), .second, .val (.long q4), .second, .unset, .unset, .unset, .unset, .unset, .unset, .unset, .unset, .unset, .unset, .unset, .unset, .unset, .unset] [(.int p0)])) rfl (hb hby at_1) hr) ?_
  show Runs p e below _ (s₁.setTop (mkF m 3 #[.val (.int p0), .val (.long q1), .second, .val (.long q2), .second, .val (.long q3), .second, .val (.long q4), .second, .unset, .unset, .unset, .unset, .unset, .unset, .unset, .unset, .unset, .unset, .unset, .unset, .unset, .unset] [(.int (2147483647 : Int32)), (.int p0)]))
  refine Runs.by (fun _ hr => XS.iand X0.here hx rfl (hb hby at_3) rfl hr) ?_
  show Runs p e below _ (s₁.setTop (mkF m 4 #[.val (.int p0), .val (.long q1), .second, .val (.long q2), .second, .val (.long q3), .second, .val (.long q4), .second, .unset, .unset, .unset, .unset, .unset, .unset, .unset, .unset, .unset, .unset, .unset, .unset, .unset, .unset] [(.int (p0 &&& (2147483647 : Int32)))]))
  refine Runs.by (fun _ hr => XS.iconst X0.here hx rfl (hb hby at_4) hr) ?_
  show Runs p e below _ (s₁.setTop (mkF m 5 #[.val (.int p0), .val (.long q1), .second, .val (.long q2), .second, .val (.long q3), .second, .val (.long q4), .second, .unset, .unset, .unset, .unset, .unset, .unset, .unset, .unset, .unset, .unset, .unset, .unset, .unset, .unset] [(.int (5 : Int32)), (.int (p0 &&& (2147483647 : Int32)))]))
  refine Runs.by (fun _ hr => iremM X0 hx rfl (hb hby at_5) rfl (by decide) hr) ?_
  show Runs p e below _ (s₁.setTop (mkF m 6 #[.val (.int p0), .val (.long q1), .second, .val (.long q2), .second, .val (.long q3), .second, .val (.long q4), .second, .unset, .unset, .unset, .unset, .unset, .unset, .unset, .unset, .unset, .unset, .unset, .unset, .unset, .unset] [(.int ((p0 &&& (2147483647 : Int32)) % (5 : Int32)))]))
  refine Runs.by (fun _ hr => XS.istore X0.here hx rfl (hb hby at_6) rfl (l' := #[.val (.int p0), .val (.long q1), .second, .val (.long q2), .second, .val (.long q3), .second, .val (.long q4), .second, .val (.int ((p0 &&& (2147483647 : Int32)) % (5 : Int32))), .unset, .unset, .unset, .unset, .unset, .unset, .unset, .unset, .unset, .unset, .unset, .unset, .unset]) rfl hr) ?_
  have hk := own_mod5 p0
  generalize (p0 &&& (2147483647 : Int32)) % (5 : Int32) = kk at hk ⊢
  rcases hk with rfl | rfl | rfl | rfl | rfl
  · skip
    show Runs p e below _ (s₁.setTop (mkF m 8 #[.val (.int p0), .val (.long q1), .second, .val (.long q2), .second, .val (.long q3), .second, .val (.long q4), .second, .val (.int (0 : Int32)), .unset, .unset, .unset, .unset, .unset, .unset, .unset, .unset, .unset, .unset, .unset, .unset, .unset] []))
    refine Runs.by (fun _ hr => XS.lloadN X0.here hx rfl (hb hby at_8) rfl  hr) ?_
    show Runs p e below _ (s₁.setTop (mkF m 9 #[.val (.int p0), .val (.long q1), .second, .val (.long q2), .second, .val (.long q3), .second, .val (.long q4), .second, .val (.int (0 : Int32)), .unset, .unset, .unset, .unset, .unset, .unset, .unset, .unset, .unset, .unset, .unset, .unset, .unset] [(.long q1)]))
    refine Runs.by (fun _ hr => XS.l2dS X0.here hx rfl (hb hby at_9) rfl rfl hr) ?_
    show Runs p e below _ (s₁.setTop (mkF m 10 #[.val (.int p0), .val (.long q1), .second, .val (.long q2), .second, .val (.long q3), .second, .val (.long q4), .second, .val (.int (0 : Int32)), .unset, .unset, .unset, .unset, .unset, .unset, .unset, .unset, .unset, .unset, .unset, .unset, .unset] [(.double (FP.l2d q1))]))
    refine Runs.by (fun _ hr => XS.dstore X0.here hx rfl (hb hby at_10) rfl (l' := #[.val (.int p0), .val (.long q1), .second, .val (.long q2), .second, .val (.long q3), .second, .val (.long q4), .second, .val (.int (0 : Int32)), .val (.double (FP.l2d q1)), .second, .unset, .unset, .unset, .unset, .unset, .unset, .unset, .unset, .unset, .unset, .unset]) rfl hr) ?_
    show Runs p e below _ (s₁.setTop (mkF m 12 #[.val (.int p0), .val (.long q1), .second, .val (.long q2), .second, .val (.long q3), .second, .val (.long q4), .second, .val (.int (0 : Int32)), .val (.double (FP.l2d q1)), .second, .unset, .unset, .unset, .unset, .unset, .unset, .unset, .unset, .unset, .unset, .unset] []))
    refine Runs.by (fun _ hr => XS.lloadN X0.here hx rfl (hb hby at_12) rfl  hr) ?_
    show Runs p e below _ (s₁.setTop (mkF m 13 #[.val (.int p0), .val (.long q1), .second, .val (.long q2), .second, .val (.long q3), .second, .val (.long q4), .second, .val (.int (0 : Int32)), .val (.double (FP.l2d q1)), .second, .unset, .unset, .unset, .unset, .unset, .unset, .unset, .unset, .unset, .unset, .unset] [(.long q2)]))
    refine Runs.by (fun _ hr => XS.l2dS X0.here hx rfl (hb hby at_13) rfl rfl hr) ?_
    show Runs p e below _ (s₁.setTop (mkF m 14 #[.val (.int p0), .val (.long q1), .second, .val (.long q2), .second, .val (.long q3), .second, .val (.long q4), .second, .val (.int (0 : Int32)), .val (.double (FP.l2d q1)), .second, .unset, .unset, .unset, .unset, .unset, .unset, .unset, .unset, .unset, .unset, .unset] [(.double (FP.l2d q2))]))
    refine Runs.by (fun _ hr => XS.dstore X0.here hx rfl (hb hby at_14) rfl (l' := #[.val (.int p0), .val (.long q1), .second, .val (.long q2), .second, .val (.long q3), .second, .val (.long q4), .second, .val (.int (0 : Int32)), .val (.double (FP.l2d q1)), .second, .val (.double (FP.l2d q2)), .second, .unset, .unset, .unset, .unset, .unset, .unset, .unset, .unset, .unset]) rfl hr) ?_
    show Runs p e below _ (s₁.setTop (mkF m 16 #[.val (.int p0), .val (.long q1), .second, .val (.long q2), .second, .val (.long q3), .second, .val (.long q4), .second, .val (.int (0 : Int32)), .val (.double (FP.l2d q1)), .second, .val (.double (FP.l2d q2)), .second, .unset, .unset, .unset, .unset, .unset, .unset, .unset, .unset, .unset] []))
    refine Runs.by (fun _ hr => XS.lload X0.here hx rfl (hb hby at_16) rfl  hr) ?_
    show Runs p e below _ (s₁.setTop (mkF m 18 #[.val (.int p0), .val (.long q1), .second, .val (.long q2), .second, .val (.long q3), .second, .val (.long q4), .second, .val (.int (0 : Int32)), .val (.double (FP.l2d q1)), .second, .val (.double (FP.l2d q2)), .second, .unset, .unset, .unset, .unset, .unset, .unset, .unset, .unset, .unset] [(.long q3)]))
    refine Runs.by (fun _ hr => XS.l2dS X0.here hx rfl (hb hby at_18) rfl rfl hr) ?_
    show Runs p e below _ (s₁.setTop (mkF m 19 #[.val (.int p0), .val (.long q1), .second, .val (.long q2), .second, .val (.long q3), .second, .val (.long q4), .second, .val (.int (0 : Int32)), .val (.double (FP.l2d q1)), .second, .val (.double (FP.l2d q2)), .second, .unset, .unset, .unset, .unset, .unset, .unset, .unset, .unset, .unset] [(.double (FP.l2d q3))]))
    refine Runs.by (fun _ hr => XS.dstore X0.here hx rfl (hb hby at_19) rfl (l' := #[.val (.int p0), .val (.long q1), .second, .val (.long q2), .second, .val (.long q3), .second, .val (.long q4), .second, .val (.int (0 : Int32)), .val (.double (FP.l2d q1)), .second, .val (.double (FP.l2d q2)), .second, .val (.double (FP.l2d q3)), .second, .unset, .unset, .unset, .unset, .unset, .unset, .unset]) rfl hr) ?_
    show Runs p e below _ (s₁.setTop (mkF m 21 #[.val (.int p0), .val (.long q1), .second, .val (.long q2), .second, .val (.long q3), .second, .val (.long q4), .second, .val (.int (0 : Int32)), .val (.double (FP.l2d q1)), .second, .val (.double (FP.l2d q2)), .second, .val (.double (FP.l2d q3)), .second, .unset, .unset, .unset, .unset, .unset, .unset, .unset] []))
    refine Runs.by (fun _ hr => XS.lload X0.here hx rfl (hb hby at_21) rfl  hr) ?_
    show Runs p e below _ (s₁.setTop (mkF m 23 #[.val (.int p0), .val (.long q1), .second, .val (.long q2), .second, .val (.long q3), .second, .val (.long q4), .second, .val (.int (0 : Int32)), .val (.double (FP.l2d q1)), .second, .val (.double (FP.l2d q2)), .second, .val (.double (FP.l2d q3)), .second, .unset, .unset, .unset, .unset, .unset, .unset, .unset] [(.long q4)]))
    refine Runs.by (fun _ hr => XS.l2dS X0.here hx rfl (hb hby at_23) rfl rfl hr) ?_
    show Runs p e below _ (s₁.setTop (mkF m 24 #[.val (.int p0), .val (.long q1), .second, .val (.long q2), .second, .val (.long q3), .second, .val (.long q4), .second, .val (.int (0 : Int32)), .val (.double (FP.l2d q1)), .second, .val (.double (FP.l2d q2)), .second, .val (.double (FP.l2d q3)), .second, .unset, .unset, .unset, .unset, .unset, .unset, .unset] [(.double (FP.l2d q4))]))
    refine Runs.by (fun _ hr => XS.dstore X0.here hx rfl (hb hby at_24) rfl (l' := #[.val (.int p0), .val (.long q1), .second, .val (.long q2), .second, .val (.long q3), .second, .val (.long q4), .second, .val (.int (0 : Int32)), .val (.double (FP.l2d q1)), .second, .val (.double (FP.l2d q2)), .second, .val (.double (FP.l2d q3)), .second, .val (.double (FP.l2d q4)), .second, .unset, .unset, .unset, .unset, .unset]) rfl hr) ?_
    show Runs p e below _ (s₁.setTop (mkF m 26 #[.val (.int p0), .val (.long q1), .second, .val (.long q2), .second, .val (.long q3), .second, .val (.long q4), .second, .val (.int (0 : Int32)), .val (.double (FP.l2d q1)), .second, .val (.double (FP.l2d q2)), .second, .val (.double (FP.l2d q3)), .second, .val (.double (FP.l2d q4)), .second, .unset, .unset, .unset, .unset, .unset] []))
    refine Runs.by (fun _ hr => XS.iload X0.here hx rfl (hb hby at_26) rfl  hr) ?_
    show Runs p e below _ (s₁.setTop (mkF m 28 #[.val (.int p0), .val (.long q1), .second, .val (.long q2), .second, .val (.long q3), .second, .val (.long q4), .second, .val (.int (0 : Int32)), .val (.double (FP.l2d q1)), .second, .val (.double (FP.l2d q2)), .second, .val (.double (FP.l2d q3)), .second, .val (.double (FP.l2d q4)), .second, .unset, .unset, .unset, .unset, .unset] [(.int (0 : Int32))]))
    obtain ⟨T1, h1, k1, X1, e1, E1, A1, st1⟩ := newP X0 hx hZ (hw _ (List.mem_of_getElem? (i := 1) rfl)) e0 (g := (mkF m 28 #[.val (.int p0), .val (.long q1), .second, .val (.long q2), .second, .val (.long q3), .second, .val (.long q4), .second, .val (.int (0 : Int32)), .val (.double (FP.l2d q1)), .second, .val (.double (FP.l2d q2)), .second, .val (.double (FP.l2d q3)), .second, .val (.double (FP.l2d q4)), .second, .unset, .unset, .unset, .unset, .unset] [(.int (0 : Int32))])) rfl (hb hby at_28) rfl (by decide) (cap := 0) (by decide) (by decide) (by decide) (by decide)
    obtain ⟨b1, gz1⟩ : ∃ z, z = h0.size := ⟨_, rfl⟩
    rw [← gz1] at A1 st1
    have g_b1 : n0 ≤ b1 := Nat.le_trans (Nat.le_trans Z0 K0.1) (Nat.le_of_eq gz1.symm)
    have sz_b1 : h0.size ≤ b1 := Nat.le_trans K0.1 (Nat.le_of_eq gz1.symm)
    have K2 : Keep h0 h1 [] := K0.ext E1
    have V1 : Arv Z h1 b1 k1 .double (0 : Int32) [] (.double (0 : UInt64)) := Arv.new A1 (by decide)
    refine Runs.by st1 ?_
    show Runs p e below _ (T1.setTop (mkF m 30 #[.val (.int p0), .val (.long q1), .second, .val (.long q2), .second, .val (.long q3), .second, .val (.long q4), .second, .val (.int (0 : Int32)), .val (.double (FP.l2d q1)), .second, .val (.double (FP.l2d q2)), .second, .val (.double (FP.l2d q3)), .second, .val (.double (FP.l2d q4)), .second, .unset, .unset, .unset, .unset, .unset] [(.ref b1)]))
    refine Runs.by (fun _ hr => XS.astore X1.here hx rfl (hb hby at_30) rfl rfl (l' := #[.val (.int p0), .val (.long q1), .second, .val (.long q2), .second, .val (.long q3), .second, .val (.long q4), .second, .val (.int (0 : Int32)), .val (.double (FP.l2d q1)), .second, .val (.double (FP.l2d q2)), .second, .val (.double (FP.l2d q3)), .second, .val (.double (FP.l2d q4)), .second, .val (.ref b1), .unset, .unset, .unset, .unset]) rfl hr) ?_
    show Runs p e below _ (T1.setTop (mkF m 32 #[.val (.int p0), .val (.long q1), .second, .val (.long q2), .second, .val (.long q3), .second, .val (.long q4), .second, .val (.int (0 : Int32)), .val (.double (FP.l2d q1)), .second, .val (.double (FP.l2d q2)), .second, .val (.double (FP.l2d q3)), .second, .val (.double (FP.l2d q4)), .second, .val (.ref b1), .unset, .unset, .unset, .unset] []))
    refine Runs.by (fun _ hr => XS.iload X1.here hx rfl (hb hby at_32) rfl  hr) ?_
    show Runs p e below _ (T1.setTop (mkF m 34 #[.val (.int p0), .val (.long q1), .second, .val (.long q2), .second, .val (.long q3), .second, .val (.long q4), .second, .val (.int (0 : Int32)), .val (.double (FP.l2d q1)), .second, .val (.double (FP.l2d q2)), .second, .val (.double (FP.l2d q3)), .second, .val (.double (FP.l2d q4)), .second, .val (.ref b1), .unset, .unset, .unset, .unset] [(.int (0 : Int32))]))
    have hc34 : ¬ ((0 : Int32) < (0 : Int32)) := (by decide)
    refine Runs.by (fun _ hr => XS.ifYes X1.here hx rfl (pc0 := 34) (pc' := 43) rfl (hb hby at_34) rfl ((if0 _ _).trans (flt hc34).2.2.2) (by decide) (by decide) hr) ?_
    show Runs p e below _ (T1.setTop (mkF m 43 #[.val (.int p0), .val (.long q1), .second, .val (.long q2), .second, .val (.long q3), .second, .val (.long q4), .second, .val (.int (0 : Int32)), .val (.double (FP.l2d q1)), .second, .val (.double (FP.l2d q2)), .second, .val (.double (FP.l2d q3)), .second, .val (.double (FP.l2d q4)), .second, .val (.ref b1), .unset, .unset, .unset, .unset] []))
    refine Runs.by (fun _ hr => XS.iload X1.here hx rfl (hb hby at_43) rfl  hr) ?_
    show Runs p e below _ (T1.setTop (mkF m 45 #[.val (.int p0), .val (.long q1), .second, .val (.long q2), .second, .val (.long q3), .second, .val (.long q4), .second, .val (.int (0 : Int32)), .val (.double (FP.l2d q1)), .second, .val (.double (FP.l2d q2)), .second, .val (.double (FP.l2d q3)), .second, .val (.double (FP.l2d q4)), .second, .val (.ref b1), .unset, .unset, .unset, .unset] [(.int (0 : Int32))]))
    refine Runs.by (fun _ hr => XS.iconst X1.here hx rfl (hb hby at_45) hr) ?_
    show Runs p e below _ (T1.setTop (mkF m 46 #[.val (.int p0), .val (.long q1), .second, .val (.long q2), .second, .val (.long q3), .second, .val (.long q4), .second, .val (.int (0 : Int32)), .val (.double (FP.l2d q1)), .second, .val (.double (FP.l2d q2)), .second, .val (.double (FP.l2d q3)), .second, .val (.double (FP.l2d q4)), .second, .val (.ref b1), .unset, .unset, .unset, .unset] [(.int (1 : Int32)), (.int (0 : Int32))]))
    have hc46 : ¬ ((1 : Int32) < (0 : Int32)) := (by decide)
    refine Runs.by (fun _ hr => XS.icmpYes X1.here hx rfl (pc0 := 46) (pc' := 55) rfl (hb hby at_46) rfl (flt hc46).2.2.2 (by decide) (by decide) hr) ?_
    show Runs p e below _ (T1.setTop (mkF m 55 #[.val (.int p0), .val (.long q1), .second, .val (.long q2), .second, .val (.long q3), .second, .val (.long q4), .second, .val (.int (0 : Int32)), .val (.double (FP.l2d q1)), .second, .val (.double (FP.l2d q2)), .second, .val (.double (FP.l2d q3)), .second, .val (.double (FP.l2d q4)), .second, .val (.ref b1), .unset, .unset, .unset, .unset] []))
    refine Runs.by (fun _ hr => XS.iload X1.here hx rfl (hb hby at_55) rfl  hr) ?_
    show Runs p e below _ (T1.setTop (mkF m 57 #[.val (.int p0), .val (.long q1), .second, .val (.long q2), .second, .val (.long q3), .second, .val (.long q4), .second, .val (.int (0 : Int32)), .val (.double (FP.l2d q1)), .second, .val (.double (FP.l2d q2)), .second, .val (.double (FP.l2d q3)), .second, .val (.double (FP.l2d q4)), .second, .val (.ref b1), .unset, .unset, .unset, .unset] [(.int (0 : Int32))]))
    refine Runs.by (fun _ hr => XS.iconst X1.here hx rfl (hb hby at_57) hr) ?_
    show Runs p e below _ (T1.setTop (mkF m 58 #[.val (.int p0), .val (.long q1), .second, .val (.long q2), .second, .val (.long q3), .second, .val (.long q4), .second, .val (.int (0 : Int32)), .val (.double (FP.l2d q1)), .second, .val (.double (FP.l2d q2)), .second, .val (.double (FP.l2d q3)), .second, .val (.double (FP.l2d q4)), .second, .val (.ref b1), .unset, .unset, .unset, .unset] [(.int (2 : Int32)), (.int (0 : Int32))]))
    have hc58 : ¬ ((2 : Int32) < (0 : Int32)) := (by decide)
    refine Runs.by (fun _ hr => XS.icmpYes X1.here hx rfl (pc0 := 58) (pc' := 67) rfl (hb hby at_58) rfl (flt hc58).2.2.2 (by decide) (by decide) hr) ?_
    show Runs p e below _ (T1.setTop (mkF m 67 #[.val (.int p0), .val (.long q1), .second, .val (.long q2), .second, .val (.long q3), .second, .val (.long q4), .second, .val (.int (0 : Int32)), .val (.double (FP.l2d q1)), .second, .val (.double (FP.l2d q2)), .second, .val (.double (FP.l2d q3)), .second, .val (.double (FP.l2d q4)), .second, .val (.ref b1), .unset, .unset, .unset, .unset] []))
    refine Runs.by (fun _ hr => XS.iload X1.here hx rfl (hb hby at_67) rfl  hr) ?_
    show Runs p e below _ (T1.setTop (mkF m 69 #[.val (.int p0), .val (.long q1), .second, .val (.long q2), .second, .val (.long q3), .second, .val (.long q4), .second, .val (.int (0 : Int32)), .val (.double (FP.l2d q1)), .second, .val (.double (FP.l2d q2)), .second, .val (.double (FP.l2d q3)), .second, .val (.double (FP.l2d q4)), .second, .val (.ref b1), .unset, .unset, .unset, .unset] [(.int (0 : Int32))]))
    refine Runs.by (fun _ hr => XS.iconst X1.here hx rfl (hb hby at_69) hr) ?_
    show Runs p e below _ (T1.setTop (mkF m 70 #[.val (.int p0), .val (.long q1), .second, .val (.long q2), .second, .val (.long q3), .second, .val (.long q4), .second, .val (.int (0 : Int32)), .val (.double (FP.l2d q1)), .second, .val (.double (FP.l2d q2)), .second, .val (.double (FP.l2d q3)), .second, .val (.double (FP.l2d q4)), .second, .val (.ref b1), .unset, .unset, .unset, .unset] [(.int (3 : Int32)), (.int (0 : Int32))]))
    have hc70 : ¬ ((3 : Int32) < (0 : Int32)) := (by decide)
    refine Runs.by (fun _ hr => XS.icmpYes X1.here hx rfl (pc0 := 70) (pc' := 79) rfl (hb hby at_70) rfl (flt hc70).2.2.2 (by decide) (by decide) hr) ?_
    show Runs p e below _ (T1.setTop (mkF m 79 #[.val (.int p0), .val (.long q1), .second, .val (.long q2), .second, .val (.long q3), .second, .val (.long q4), .second, .val (.int (0 : Int32)), .val (.double (FP.l2d q1)), .second, .val (.double (FP.l2d q2)), .second, .val (.double (FP.l2d q3)), .second, .val (.double (FP.l2d q4)), .second, .val (.ref b1), .unset, .unset, .unset, .unset] []))
    refine Runs.by (fun _ hr => XS.dconst0 X1.here hx rfl (hb hby at_79) rfl hr) ?_
    show Runs p e below _ (T1.setTop (mkF m 80 #[.val (.int p0), .val (.long q1), .second, .val (.long q2), .second, .val (.long q3), .second, .val (.long q4), .second, .val (.int (0 : Int32)), .val (.double (FP.l2d q1)), .second, .val (.double (FP.l2d q2)), .second, .val (.double (FP.l2d q3)), .second, .val (.double (FP.l2d q4)), .second, .val (.ref b1), .unset, .unset, .unset, .unset] [(.double FP.dconst0)]))
    refine Runs.by (fun _ hr => XS.dstore X1.here hx rfl (hb hby at_80) rfl (l' := #[.val (.int p0), .val (.long q1), .second, .val (.long q2), .second, .val (.long q3), .second, .val (.long q4), .second, .val (.int (0 : Int32)), .val (.double (FP.l2d q1)), .second, .val (.double (FP.l2d q2)), .second, .val (.double (FP.l2d q3)), .second, .val (.double (FP.l2d q4)), .second, .val (.ref b1), .val (.double FP.dconst0), .second, .unset, .unset]) rfl hr) ?_
    show Runs p e below _ (T1.setTop (mkF m 82 #[.val (.int p0), .val (.long q1), .second, .val (.long q2), .second, .val (.long q3), .second, .val (.long q4), .second, .val (.int (0 : Int32)), .val (.double (FP.l2d q1)), .second, .val (.double (FP.l2d q2)), .second, .val (.double (FP.l2d q3)), .second, .val (.double (FP.l2d q4)), .second, .val (.ref b1), .val (.double FP.dconst0), .second, .unset, .unset] []))
    refine Runs.by (fun _ hr => XS.iload X1.here hx rfl (hb hby at_82) rfl  hr) ?_
    show Runs p e below _ (T1.setTop (mkF m 84 #[.val (.int p0), .val (.long q1), .second, .val (.long q2), .second, .val (.long q3), .second, .val (.long q4), .second, .val (.int (0 : Int32)), .val (.double (FP.l2d q1)), .second, .val (.double (FP.l2d q2)), .second, .val (.double (FP.l2d q3)), .second, .val (.double (FP.l2d q4)), .second, .val (.ref b1), .val (.double FP.dconst0), .second, .unset, .unset] [(.int (0 : Int32))]))
    have hc84 : ¬ ((0 : Int32) < (0 : Int32)) := (by decide)
    refine Runs.by (fun _ hr => XS.ifYes X1.here hx rfl (pc0 := 84) (pc' := 94) rfl (hb hby at_84) rfl ((if0 _ _).trans (flt hc84).2.2.2) (by decide) (by decide) hr) ?_
    show Runs p e below _ (T1.setTop (mkF m 94 #[.val (.int p0), .val (.long q1), .second, .val (.long q2), .second, .val (.long q3), .second, .val (.long q4), .second, .val (.int (0 : Int32)), .val (.double (FP.l2d q1)), .second, .val (.double (FP.l2d q2)), .second, .val (.double (FP.l2d q3)), .second, .val (.double (FP.l2d q4)), .second, .val (.ref b1), .val (.double FP.dconst0), .second, .unset, .unset] []))
    refine Runs.by (fun _ hr => XS.iload X1.here hx rfl (hb hby at_94) rfl  hr) ?_
    show Runs p e below _ (T1.setTop (mkF m 96 #[.val (.int p0), .val (.long q1), .second, .val (.long q2), .second, .val (.long q3), .second, .val (.long q4), .second, .val (.int (0 : Int32)), .val (.double (FP.l2d q1)), .second, .val (.double (FP.l2d q2)), .second, .val (.double (FP.l2d q3)), .second, .val (.double (FP.l2d q4)), .second, .val (.ref b1), .val (.double FP.dconst0), .second, .unset, .unset] [(.int (0 : Int32))]))
    refine Runs.by (fun _ hr => XS.iconst X1.here hx rfl (hb hby at_96) hr) ?_
    show Runs p e below _ (T1.setTop (mkF m 97 #[.val (.int p0), .val (.long q1), .second, .val (.long q2), .second, .val (.long q3), .second, .val (.long q4), .second, .val (.int (0 : Int32)), .val (.double (FP.l2d q1)), .second, .val (.double (FP.l2d q2)), .second, .val (.double (FP.l2d q3)), .second, .val (.double (FP.l2d q4)), .second, .val (.ref b1), .val (.double FP.dconst0), .second, .unset, .unset] [(.int (1 : Int32)), (.int (0 : Int32))]))
    have hc97 : ¬ ((1 : Int32) < (0 : Int32)) := (by decide)
    refine Runs.by (fun _ hr => XS.icmpYes X1.here hx rfl (pc0 := 97) (pc' := 107) rfl (hb hby at_97) rfl (flt hc97).2.2.2 (by decide) (by decide) hr) ?_
    show Runs p e below _ (T1.setTop (mkF m 107 #[.val (.int p0), .val (.long q1), .second, .val (.long q2), .second, .val (.long q3), .second, .val (.long q4), .second, .val (.int (0 : Int32)), .val (.double (FP.l2d q1)), .second, .val (.double (FP.l2d q2)), .second, .val (.double (FP.l2d q3)), .second, .val (.double (FP.l2d q4)), .second, .val (.ref b1), .val (.double FP.dconst0), .second, .unset, .unset] []))
    refine Runs.by (fun _ hr => XS.iload X1.here hx rfl (hb hby at_107) rfl  hr) ?_
    show Runs p e below _ (T1.setTop (mkF m 109 #[.val (.int p0), .val (.long q1), .second, .val (.long q2), .second, .val (.long q3), .second, .val (.long q4), .second, .val (.int (0 : Int32)), .val (.double (FP.l2d q1)), .second, .val (.double (FP.l2d q2)), .second, .val (.double (FP.l2d q3)), .second, .val (.double (FP.l2d q4)), .second, .val (.ref b1), .val (.double FP.dconst0), .second, .unset, .unset] [(.int (0 : Int32))]))
    refine Runs.by (fun _ hr => XS.iconst X1.here hx rfl (hb hby at_109) hr) ?_
    show Runs p e below _ (T1.setTop (mkF m 110 #[.val (.int p0), .val (.long q1), .second, .val (.long q2), .second, .val (.long q3), .second, .val (.long q4), .second, .val (.int (0 : Int32)), .val (.double (FP.l2d q1)), .second, .val (.double (FP.l2d q2)), .second, .val (.double (FP.l2d q3)), .second, .val (.double (FP.l2d q4)), .second, .val (.ref b1), .val (.double FP.dconst0), .second, .unset, .unset] [(.int (2 : Int32)), (.int (0 : Int32))]))
    have hc110 : ¬ ((2 : Int32) < (0 : Int32)) := (by decide)
    refine Runs.by (fun _ hr => XS.icmpYes X1.here hx rfl (pc0 := 110) (pc' := 120) rfl (hb hby at_110) rfl (flt hc110).2.2.2 (by decide) (by decide) hr) ?_
    show Runs p e below _ (T1.setTop (mkF m 120 #[.val (.int p0), .val (.long q1), .second, .val (.long q2), .second, .val (.long q3), .second, .val (.long q4), .second, .val (.int (0 : Int32)), .val (.double (FP.l2d q1)), .second, .val (.double (FP.l2d q2)), .second, .val (.double (FP.l2d q3)), .second, .val (.double (FP.l2d q4)), .second, .val (.ref b1), .val (.double FP.dconst0), .second, .unset, .unset] []))
    refine Runs.by (fun _ hr => XS.iload X1.here hx rfl (hb hby at_120) rfl  hr) ?_
    show Runs p e below _ (T1.setTop (mkF m 122 #[.val (.int p0), .val (.long q1), .second, .val (.long q2), .second, .val (.long q3), .second, .val (.long q4), .second, .val (.int (0 : Int32)), .val (.double (FP.l2d q1)), .second, .val (.double (FP.l2d q2)), .second, .val (.double (FP.l2d q3)), .second, .val (.double (FP.l2d q4)), .second, .val (.ref b1), .val (.double FP.dconst0), .second, .unset, .unset] [(.int (0 : Int32))]))
    refine Runs.by (fun _ hr => XS.iconst X1.here hx rfl (hb hby at_122) hr) ?_
    show Runs p e below _ (T1.setTop (mkF m 123 #[.val (.int p0), .val (.long q1), .second, .val (.long q2), .second, .val (.long q3), .second, .val (.long q4), .second, .val (.int (0 : Int32)), .val (.double (FP.l2d q1)), .second, .val (.double (FP.l2d q2)), .second, .val (.double (FP.l2d q3)), .second, .val (.double (FP.l2d q4)), .second, .val (.ref b1), .val (.double FP.dconst0), .second, .unset, .unset] [(.int (3 : Int32)), (.int (0 : Int32))]))
    have hc123 : ¬ ((3 : Int32) < (0 : Int32)) := (by decide)
    refine Runs.by (fun _ hr => XS.icmpYes X1.here hx rfl (pc0 := 123) (pc' := 133) rfl (hb hby at_123) rfl (flt hc123).2.2.2 (by decide) (by decide) hr) ?_
    show Runs p e below _ (T1.setTop (mkF m 133 #[.val (.int p0), .val (.long q1), .second, .val (.long q2), .second, .val (.long q3), .second, .val (.long q4), .second, .val (.int (0 : Int32)), .val (.double (FP.l2d q1)), .second, .val (.double (FP.l2d q2)), .second, .val (.double (FP.l2d q3)), .second, .val (.double (FP.l2d q4)), .second, .val (.ref b1), .val (.double FP.dconst0), .second, .unset, .unset] []))
    refine Runs.by (fun _ hr => XS.aload X1.here hx rfl (hb hby at_133) rfl rfl hr) ?_
    show Runs p e below _ (T1.setTop (mkF m 135 #[.val (.int p0), .val (.long q1), .second, .val (.long q2), .second, .val (.long q3), .second, .val (.long q4), .second, .val (.int (0 : Int32)), .val (.double (FP.l2d q1)), .second, .val (.double (FP.l2d q2)), .second, .val (.double (FP.l2d q3)), .second, .val (.double (FP.l2d q4)), .second, .val (.ref b1), .val (.double FP.dconst0), .second, .unset, .unset] [(.ref b1)]))
    obtain ⟨_, _, ⟨T3, L3, k3, n3⟩, -, X3, ⟨Lc3, hQ3, l3, y3, z3⟩, st3⟩ := Jvm.LawKit.callS X1 hx (y := (⟨"com/example/threshold/threshold/engine/Bm25", "sum", "([D)D"⟩ : MethodName)) hown (mvT hZ (hw _ (List.mem_of_getElem? (i := 2) rfl))) (mvT hZ (hw _ (List.mem_of_getElem? (i := 3) rfl))) (mvT hZ (hw _ (List.mem_of_getElem? (i := 4) rfl))) (mvT hZ (hw _ (List.mem_of_getElem? (i := 5) rfl))) (by decide) (backOf (W := 0) (rm1_0 l Z a0 hw [] b1 k1 h1 n0 (Nat.le_trans Z0 K2.1) V1) hZ (hw _ (List.mem_of_getElem? (i := 5) rfl)) (hw _ (List.mem_of_getElem? (i := 4) rfl)) (by decide) (by decide)) (g := (mkF m 135 #[.val (.int p0), .val (.long q1), .second, .val (.long q2), .second, .val (.long q3), .second, .val (.long q4), .second, .val (.int (0 : Int32)), .val (.double (FP.l2d q1)), .second, .val (.double (FP.l2d q2)), .second, .val (.double (FP.l2d q3)), .second, .val (.double (FP.l2d q4)), .second, .val (.ref b1), .val (.double FP.dconst0), .second, .unset, .unset] [(.ref b1)])) rfl (by rw [hml]; rfl) (argsL := [(.ref b1)]) (rest := []) (lenOf pd_0 rfl) rfl (by show 2 * 0 + _ ≤ _; exact Nat.le_of_eq rfl) (hb hby at_135) (fun _ _ => ⟨rfl, e1, (by decide : 1 + 0 ≤ _), (by decide : 0 + 0 ≤ _)⟩)
    dsimp only [Pt.U, Pt.locs, Pt.cells, Pt.slots] at X3 l3 y3 z3 st3 hQ3
    subst l3 y3 z3
    obtain ⟨rfl, Nq3, eq3⟩ := hQ3
    have N3 := Fr.app N0 Nq3
    refine Runs.by (fun t hr => st3 t hr) ?_
    show Runs p e below _ (T3.setTop (mkF m 138 #[.val (.int p0), .val (.long q1), .second, .val (.long q2), .second, .val (.long q3), .second, .val (.long q4), .second, .val (.int (0 : Int32)), .val (.double (FP.l2d q1)), .second, .val (.double (FP.l2d q2)), .second, .val (.double (FP.l2d q3)), .second, .val (.double (FP.l2d q4)), .second, .val (.ref b1), .val (.double FP.dconst0), .second, .unset, .unset] [(.double FP.dconst0)]))
    refine Runs.by (fun _ hr => XS.dstore X3.here hx rfl (hb hby at_138) rfl (l' := #[.val (.int p0), .val (.long q1), .second, .val (.long q2), .second, .val (.long q3), .second, .val (.long q4), .second, .val (.int (0 : Int32)), .val (.double (FP.l2d q1)), .second, .val (.double (FP.l2d q2)), .second, .val (.double (FP.l2d q3)), .second, .val (.double (FP.l2d q4)), .second, .val (.ref b1), .val (.double FP.dconst0), .second, .val (.double FP.dconst0), .second]) rfl hr) ?_
    show Runs p e below _ (T3.setTop (mkF m 140 #[.val (.int p0), .val (.long q1), .second, .val (.long q2), .second, .val (.long q3), .second, .val (.long q4), .second, .val (.int (0 : Int32)), .val (.double (FP.l2d q1)), .second, .val (.double (FP.l2d q2)), .second, .val (.double (FP.l2d q3)), .second, .val (.double (FP.l2d q4)), .second, .val (.ref b1), .val (.double FP.dconst0), .second, .val (.double FP.dconst0), .second] []))
    refine Runs.by (fun _ hr => XS.dload X3.here hx rfl (hb hby at_140) rfl  hr) ?_
    show Runs p e below _ (T3.setTop (mkF m 142 #[.val (.int p0), .val (.long q1), .second, .val (.long q2), .second, .val (.long q3), .second, .val (.long q4), .second, .val (.int (0 : Int32)), .val (.double (FP.l2d q1)), .second, .val (.double (FP.l2d q2)), .second, .val (.double (FP.l2d q3)), .second, .val (.double (FP.l2d q4)), .second, .val (.ref b1), .val (.double FP.dconst0), .second, .val (.double FP.dconst0), .second] [(.double FP.dconst0)]))
    refine Runs.by (fun _ hr => XS.dload X3.here hx rfl (hb hby at_142) rfl  hr) ?_
    show Runs p e below _ (T3.setTop (mkF m 144 #[.val (.int p0), .val (.long q1), .second, .val (.long q2), .second, .val (.long q3), .second, .val (.long q4), .second, .val (.int (0 : Int32)), .val (.double (FP.l2d q1)), .second, .val (.double (FP.l2d q2)), .second, .val (.double (FP.l2d q3)), .second, .val (.double (FP.l2d q4)), .second, .val (.ref b1), .val (.double FP.dconst0), .second, .val (.double FP.dconst0), .second] [(.double FP.dconst0), (.double FP.dconst0)]))
    refine Runs.by (fun _ hr => XS.dcmpS X3.here hx rfl (hb hby at_144) rfl (dcmpV_self own_d0 _) hr) ?_
    show Runs p e below _ (T3.setTop (mkF m 145 #[.val (.int p0), .val (.long q1), .second, .val (.long q2), .second, .val (.long q3), .second, .val (.long q4), .second, .val (.int (0 : Int32)), .val (.double (FP.l2d q1)), .second, .val (.double (FP.l2d q2)), .second, .val (.double (FP.l2d q3)), .second, .val (.double (FP.l2d q4)), .second, .val (.ref b1), .val (.double FP.dconst0), .second, .val (.double FP.dconst0), .second] [(.int (0 : Int32))]))
    have hc145 : (0 : Int32) = (0 : Int32) := (by decide)
    refine Runs.by (fun _ hr => XS.ifNo X3.here hx rfl (hb hby at_145) rfl ((if0 _ _).trans (teq hc145).2) hr) ?_
    show Runs p e below _ (T3.setTop (mkF m 148 #[.val (.int p0), .val (.long q1), .second, .val (.long q2), .second, .val (.long q3), .second, .val (.long q4), .second, .val (.int (0 : Int32)), .val (.double (FP.l2d q1)), .second, .val (.double (FP.l2d q2)), .second, .val (.double (FP.l2d q3)), .second, .val (.double (FP.l2d q4)), .second, .val (.ref b1), .val (.double FP.dconst0), .second, .val (.double FP.dconst0), .second] []))
    refine Runs.by (fun _ hr => XS.iconst X3.here hx rfl (hb hby at_148) hr) ?_
    show Runs p e below _ (T3.setTop (mkF m 149 #[.val (.int p0), .val (.long q1), .second, .val (.long q2), .second, .val (.long q3), .second, .val (.long q4), .second, .val (.int (0 : Int32)), .val (.double (FP.l2d q1)), .second, .val (.double (FP.l2d q2)), .second, .val (.double (FP.l2d q3)), .second, .val (.double (FP.l2d q4)), .second, .val (.ref b1), .val (.double FP.dconst0), .second, .val (.double FP.dconst0), .second] [(.int (1 : Int32))]))
    refine Runs.by (fun _ hr => XS.goto X3.here hx rfl (pc0 := 149) (pc' := 153) rfl (hb hby at_149) (by decide) (by decide) hr) ?_
    show Runs p e below _ (T3.setTop (mkF m 153 #[.val (.int p0), .val (.long q1), .second, .val (.long q2), .second, .val (.long q3), .second, .val (.long q4), .second, .val (.int (0 : Int32)), .val (.double (FP.l2d q1)), .second, .val (.double (FP.l2d q2)), .second, .val (.double (FP.l2d q3)), .second, .val (.double (FP.l2d q4)), .second, .val (.ref b1), .val (.double FP.dconst0), .second, .val (.double FP.dconst0), .second] [(.int (1 : Int32))]))
    refine Runs.ret X3 hx hrt hlk (Or.inl ⟨rfl, by simp, _, rfl⟩) (by rfl) (hb hby at_153) (by decide) (by decide) ?_
    rw [eq3]
    exact ⟨rfl, N3⟩
  · skip
    show Runs p e below _ (s₁.setTop (mkF m 8 #[.val (.int p0), .val (.long q1), .second, .val (.long q2), .second, .val (.long q3), .second, .val (.long q4), .second, .val (.int (1 : Int32)), .unset, .unset, .unset, .unset, .unset, .unset, .unset, .unset, .unset, .unset, .unset, .unset, .unset] []))
    refine Runs.by (fun _ hr => XS.lloadN X0.here hx rfl (hb hby at_8) rfl  hr) ?_
    show Runs p e below _ (s₁.setTop (mkF m 9 #[.val (.int p0), .val (.long q1), .second, .val (.long q2), .second, .val (.long q3), .second, .val (.long q4), .second, .val (.int (1 : Int32)), .unset, .unset, .unset, .unset, .unset, .unset, .unset, .unset, .unset, .unset, .unset, .unset, .unset] [(.long q1)]))
    refine Runs.by (fun _ hr => XS.l2dS X0.here hx rfl (hb hby at_9) rfl rfl hr) ?_
    show Runs p e below _ (s₁.setTop (mkF m 10 #[.val (.int p0), .val (.long q1), .second, .val (.long q2), .second, .val (.long q3), .second, .val (.long q4), .second, .val (.int (1 : Int32)), .unset, .unset, .unset, .unset, .unset, .unset, .unset, .unset, .unset, .unset, .unset, .unset, .unset] [(.double (FP.l2d q1))]))
    refine Runs.by (fun _ hr => XS.dstore X0.here hx rfl (hb hby at_10) rfl (l' := #[.val (.int p0), .val (.long q1), .second, .val (.long q2), .second, .val (.long q3), .second, .val (.long q4), .second, .val (.int (1 : Int32)), .val (.double (FP.l2d q1)), .second, .unset, .unset, .unset, .unset, .unset, .unset, .unset, .unset, .unset, .unset, .unset]) rfl hr) ?_
    show Runs p e below _ (s₁.setTop (mkF m 12 #[.val (.int p0), .val (.long q1), .second, .val (.long q2), .second, .val (.long q3), .second, .val (.long q4), .second, .val (.int (1 : Int32)), .val (.double (FP.l2d q1)), .second, .unset, .unset, .unset, .unset, .unset, .unset, .unset, .unset, .unset, .unset, .unset] []))
    refine Runs.by (fun _ hr => XS.lloadN X0.here hx rfl (hb hby at_12) rfl  hr) ?_
    show Runs p e below _ (s₁.setTop (mkF m 13 #[.val (.int p0), .val (.long q1), .second, .val (.long q2), .second, .val (.long q3), .second, .val (.long q4), .second, .val (.int (1 : Int32)), .val (.double (FP.l2d q1)), .second, .unset, .unset, .unset, .unset, .unset, .unset, .unset, .unset, .unset, .unset, .unset] [(.long q2)]))
    refine Runs.by (fun _ hr => XS.l2dS X0.here hx rfl (hb hby at_13) rfl rfl hr) ?_
    show Runs p e below _ (s₁.setTop (mkF m 14 #[.val (.int p0), .val (.long q1), .second, .val (.long q2), .second, .val (.long q3), .second, .val (.long q4), .second, .val (.int (1 : Int32)), .val (.double (FP.l2d q1)), .second, .unset, .unset, .unset, .unset, .unset, .unset, .unset, .unset, .unset, .unset, .unset] [(.double (FP.l2d q2))]))
    refine Runs.by (fun _ hr => XS.dstore X0.here hx rfl (hb hby at_14) rfl (l' := #[.val (.int p0), .val (.long q1), .second, .val (.long q2), .second, .val (.long q3), .second, .val (.long q4), .second, .val (.int (1 : Int32)), .val (.double (FP.l2d q1)), .second, .val (.double (FP.l2d q2)), .second, .unset, .unset, .unset, .unset, .unset, .unset, .unset, .unset, .unset]) rfl hr) ?_
    show Runs p e below _ (s₁.setTop (mkF m 16 #[.val (.int p0), .val (.long q1), .second, .val (.long q2), .second, .val (.long q3), .second, .val (.long q4), .second, .val (.int (1 : Int32)), .val (.double (FP.l2d q1)), .second, .val (.double (FP.l2d q2)), .second, .unset, .unset, .unset, .unset, .unset, .unset, .unset, .unset, .unset] []))
    refine Runs.by (fun _ hr => XS.lload X0.here hx rfl (hb hby at_16) rfl  hr) ?_
    show Runs p e below _ (s₁.setTop (mkF m 18 #[.val (.int p0), .val (.long q1), .second, .val (.long q2), .second, .val (.long q3), .second, .val (.long q4), .second, .val (.int (1 : Int32)), .val (.double (FP.l2d q1)), .second, .val (.double (FP.l2d q2)), .second, .unset, .unset, .unset, .unset, .unset, .unset, .unset, .unset, .unset] [(.long q3)]))
    refine Runs.by (fun _ hr => XS.l2dS X0.here hx rfl (hb hby at_18) rfl rfl hr) ?_
    show Runs p e below _ (s₁.setTop (mkF m 19 #[.val (.int p0), .val (.long q1), .second, .val (.long q2), .second, .val (.long q3), .second, .val (.long q4), .second, .val (.int (1 : Int32)), .val (.double (FP.l2d q1)), .second, .val (.double (FP.l2d q2)), .second, .unset, .unset, .unset, .unset, .unset, .unset, .unset, .unset, .unset] [(.double (FP.l2d q3))]))
    refine Runs.by (fun _ hr => XS.dstore X0.here hx rfl (hb hby at_19) rfl (l' := #[.val (.int p0), .val (.long q1), .second, .val (.long q2), .second, .val (.long q3), .second, .val (.long q4), .second, .val (.int (1 : Int32)), .val (.double (FP.l2d q1)), .second, .val (.double (FP.l2d q2)), .second, .val (.double (FP.l2d q3)), .second, .unset, .unset, .unset, .unset, .unset, .unset, .unset]) rfl hr) ?_
    show Runs p e below _ (s₁.setTop (mkF m 21 #[.val (.int p0), .val (.long q1), .second, .val (.long q2), .second, .val (.long q3), .second, .val (.long q4), .second, .val (.int (1 : Int32)), .val (.double (FP.l2d q1)), .second, .val (.double (FP.l2d q2)), .second, .val (.double (FP.l2d q3)), .second, .unset, .unset, .unset, .unset, .unset, .unset, .unset] []))
    refine Runs.by (fun _ hr => XS.lload X0.here hx rfl (hb hby at_21) rfl  hr) ?_
    show Runs p e below _ (s₁.setTop (mkF m 23 #[.val (.int p0), .val (.long q1), .second, .val (.long q2), .second, .val (.long q3), .second, .val (.long q4), .second, .val (.int (1 : Int32)), .val (.double (FP.l2d q1)), .second, .val (.double (FP.l2d q2)), .second, .val (.double (FP.l2d q3)), .second, .unset, .unset, .unset, .unset, .unset, .unset, .unset] [(.long q4)]))
    refine Runs.by (fun _ hr => XS.l2dS X0.here hx rfl (hb hby at_23) rfl rfl hr) ?_
    show Runs p e below _ (s₁.setTop (mkF m 24 #[.val (.int p0), .val (.long q1), .second, .val (.long q2), .second, .val (.long q3), .second, .val (.long q4), .second, .val (.int (1 : Int32)), .val (.double (FP.l2d q1)), .second, .val (.double (FP.l2d q2)), .second, .val (.double (FP.l2d q3)), .second, .unset, .unset, .unset, .unset, .unset, .unset, .unset] [(.double (FP.l2d q4))]))
    refine Runs.by (fun _ hr => XS.dstore X0.here hx rfl (hb hby at_24) rfl (l' := #[.val (.int p0), .val (.long q1), .second, .val (.long q2), .second, .val (.long q3), .second, .val (.long q4), .second, .val (.int (1 : Int32)), .val (.double (FP.l2d q1)), .second, .val (.double (FP.l2d q2)), .second, .val (.double (FP.l2d q3)), .second, .val (.double (FP.l2d q4)), .second, .unset, .unset, .unset, .unset, .unset]) rfl hr) ?_
    show Runs p e below _ (s₁.setTop (mkF m 26 #[.val (.int p0), .val (.long q1), .second, .val (.long q2), .second, .val (.long q3), .second, .val (.long q4), .second, .val (.int (1 : Int32)), .val (.double (FP.l2d q1)), .second, .val (.double (FP.l2d q2)), .second, .val (.double (FP.l2d q3)), .second, .val (.double (FP.l2d q4)), .second, .unset, .unset, .unset, .unset, .unset] []))
    refine Runs.by (fun _ hr => XS.iload X0.here hx rfl (hb hby at_26) rfl  hr) ?_
    show Runs p e below _ (s₁.setTop (mkF m 28 #[.val (.int p0), .val (.long q1), .second, .val (.long q2), .second, .val (.long q3), .second, .val (.long q4), .second, .val (.int (1 : Int32)), .val (.double (FP.l2d q1)), .second, .val (.double (FP.l2d q2)), .second, .val (.double (FP.l2d q3)), .second, .val (.double (FP.l2d q4)), .second, .unset, .unset, .unset, .unset, .unset] [(.int (1 : Int32))]))
    obtain ⟨T4, h4, k4, X4, e4, E4, A4, st4⟩ := newP X0 hx hZ (hw _ (List.mem_of_getElem? (i := 1) rfl)) e0 (g := (mkF m 28 #[.val (.int p0), .val (.long q1), .second, .val (.long q2), .second, .val (.long q3), .second, .val (.long q4), .second, .val (.int (1 : Int32)), .val (.double (FP.l2d q1)), .second, .val (.double (FP.l2d q2)), .second, .val (.double (FP.l2d q3)), .second, .val (.double (FP.l2d q4)), .second, .unset, .unset, .unset, .unset, .unset] [(.int (1 : Int32))])) rfl (hb hby at_28) rfl (by decide) (cap := 1) (by decide) (by decide) (by decide) (by decide)
    obtain ⟨b4, gz4⟩ : ∃ z, z = h0.size := ⟨_, rfl⟩
    rw [← gz4] at A4 st4
    have g_b4 : n0 ≤ b4 := Nat.le_trans (Nat.le_trans Z0 K0.1) (Nat.le_of_eq gz4.symm)
    have sz_b4 : h0.size ≤ b4 := Nat.le_trans K0.1 (Nat.le_of_eq gz4.symm)
    have K5 : Keep h0 h4 [] := K0.ext E4
    have V4 : Arv Z h4 b4 k4 .double (1 : Int32) [(.double (0 : UInt64))] (.double (0 : UInt64)) := (Arv.new A4 (by decide)).pad (pad_rep [] (.double (0 : UInt64)) 1)
    refine Runs.by st4 ?_
    show Runs p e below _ (T4.setTop (mkF m 30 #[.val (.int p0), .val (.long q1), .second, .val (.long q2), .second, .val (.long q3), .second, .val (.long q4), .second, .val (.int (1 : Int32)), .val (.double (FP.l2d q1)), .second, .val (.double (FP.l2d q2)), .second, .val (.double (FP.l2d q3)), .second, .val (.double (FP.l2d q4)), .second, .unset, .unset, .unset, .unset, .unset] [(.ref b4)]))
    refine Runs.by (fun _ hr => XS.astore X4.here hx rfl (hb hby at_30) rfl rfl (l' := #[.val (.int p0), .val (.long q1), .second, .val (.long q2), .second, .val (.long q3), .second, .val (.long q4), .second, .val (.int (1 : Int32)), .val (.double (FP.l2d q1)), .second, .val (.double (FP.l2d q2)), .second, .val (.double (FP.l2d q3)), .second, .val (.double (FP.l2d q4)), .second, .val (.ref b4), .unset, .unset, .unset, .unset]) rfl hr) ?_
    show Runs p e below _ (T4.setTop (mkF m 32 #[.val (.int p0), .val (.long q1), .second, .val (.long q2), .second, .val (.long q3), .second, .val (.long q4), .second, .val (.int (1 : Int32)), .val (.double (FP.l2d q1)), .second, .val (.double (FP.l2d q2)), .second, .val (.double (FP.l2d q3)), .second, .val (.double (FP.l2d q4)), .second, .val (.ref b4), .unset, .unset, .unset, .unset] []))
    refine Runs.by (fun _ hr => XS.iload X4.here hx rfl (hb hby at_32) rfl  hr) ?_
    show Runs p e below _ (T4.setTop (mkF m 34 #[.val (.int p0), .val (.long q1), .second, .val (.long q2), .second, .val (.long q3), .second, .val (.long q4), .second, .val (.int (1 : Int32)), .val (.double (FP.l2d q1)), .second, .val (.double (FP.l2d q2)), .second, .val (.double (FP.l2d q3)), .second, .val (.double (FP.l2d q4)), .second, .val (.ref b4), .unset, .unset, .unset, .unset] [(.int (1 : Int32))]))
    have hc34 : (0 : Int32) < (1 : Int32) := (by decide)
    refine Runs.by (fun _ hr => XS.ifNo X4.here hx rfl (hb hby at_34) rfl ((if0 _ _).trans (tlt hc34).2.2.2) hr) ?_
    show Runs p e below _ (T4.setTop (mkF m 37 #[.val (.int p0), .val (.long q1), .second, .val (.long q2), .second, .val (.long q3), .second, .val (.long q4), .second, .val (.int (1 : Int32)), .val (.double (FP.l2d q1)), .second, .val (.double (FP.l2d q2)), .second, .val (.double (FP.l2d q3)), .second, .val (.double (FP.l2d q4)), .second, .val (.ref b4), .unset, .unset, .unset, .unset] []))
    refine Runs.by (fun _ hr => XS.aload X4.here hx rfl (hb hby at_37) rfl rfl hr) ?_
    show Runs p e below _ (T4.setTop (mkF m 39 #[.val (.int p0), .val (.long q1), .second, .val (.long q2), .second, .val (.long q3), .second, .val (.long q4), .second, .val (.int (1 : Int32)), .val (.double (FP.l2d q1)), .second, .val (.double (FP.l2d q2)), .second, .val (.double (FP.l2d q3)), .second, .val (.double (FP.l2d q4)), .second, .val (.ref b4), .unset, .unset, .unset, .unset] [(.ref b4)]))
    refine Runs.by (fun _ hr => XS.iconst X4.here hx rfl (hb hby at_39) hr) ?_
    show Runs p e below _ (T4.setTop (mkF m 40 #[.val (.int p0), .val (.long q1), .second, .val (.long q2), .second, .val (.long q3), .second, .val (.long q4), .second, .val (.int (1 : Int32)), .val (.double (FP.l2d q1)), .second, .val (.double (FP.l2d q2)), .second, .val (.double (FP.l2d q3)), .second, .val (.double (FP.l2d q4)), .second, .val (.ref b4), .unset, .unset, .unset, .unset] [(.int (0 : Int32)), (.ref b4)]))
    refine Runs.by (fun _ hr => XS.dload X4.here hx rfl (hb hby at_40) rfl  hr) ?_
    show Runs p e below _ (T4.setTop (mkF m 42 #[.val (.int p0), .val (.long q1), .second, .val (.long q2), .second, .val (.long q3), .second, .val (.long q4), .second, .val (.int (1 : Int32)), .val (.double (FP.l2d q1)), .second, .val (.double (FP.l2d q2)), .second, .val (.double (FP.l2d q3)), .second, .val (.double (FP.l2d q4)), .second, .val (.ref b4), .unset, .unset, .unset, .unset] [(.double (FP.l2d q1)), (.int (0 : Int32)), (.ref b4)]))
    obtain ⟨cl6, Ar6, q6, S6, N6', H6, G6⟩ := id V4
    have hin6 : ¬ ((0 : Int32) < 0 ∨ cl6.slots.size ≤ ((0 : Int32)).toNatClampNeg) := inb_of S6 ⟨by decide, by decide⟩
    obtain ⟨T6, h6, X6, e6, W6, st6⟩ := stD X4 hx hZ e4 Ar6 (j := (0 : Int32)) hin6 (g := (mkF m 42 #[.val (.int p0), .val (.long q1), .second, .val (.long q2), .second, .val (.long q3), .second, .val (.long q4), .second, .val (.int (1 : Int32)), .val (.double (FP.l2d q1)), .second, .val (.double (FP.l2d q2)), .second, .val (.double (FP.l2d q3)), .second, .val (.double (FP.l2d q4)), .second, .val (.ref b4), .unset, .unset, .unset, .unset] [(.double (FP.l2d q1)), (.int (0 : Int32)), (.ref b4)])) rfl rfl (hb hby at_42)
    have V6 : Arv Z h6 b4 k4 .double (1 : Int32) [(.double (FP.l2d q1))] (.double (0 : UInt64)) := Arv.set Ar6 q6 S6 N6' H6 G6 rfl W6 (0) rfl (Nat.le_of_ble_eq_true rfl)
    have K7 : Keep h0 h6 [] := K5.wr W6 (Or.inr sz_b4)
    have N6 := Fr.snoc X6 N0 g_b4
    refine Runs.by st6 ?_
    show Runs p e below _ (T6.setTop (mkF m 43 #[.val (.int p0), .val (.long q1), .second, .val (.long q2), .second, .val (.long q3), .second, .val (.long q4), .second, .val (.int (1 : Int32)), .val (.double (FP.l2d q1)), .second, .val (.double (FP.l2d q2)), .second, .val (.double (FP.l2d q3)), .second, .val (.double (FP.l2d q4)), .second, .val (.ref b4), .unset, .unset, .unset, .unset] []))
    refine Runs.by (fun _ hr => XS.iload X6.here hx rfl (hb hby at_43) rfl  hr) ?_
    show Runs p e below _ (T6.setTop (mkF m 45 #[.val (.int p0), .val (.long q1), .second, .val (.long q2), .second, .val (.long q3), .second, .val (.long q4), .second, .val (.int (1 : Int32)), .val (.double (FP.l2d q1)), .second, .val (.double (FP.l2d q2)), .second, .val (.double (FP.l2d q3)), .second, .val (.double (FP.l2d q4)), .second, .val (.ref b4), .unset, .unset, .unset, .unset] [(.int (1 : Int32))]))
    refine Runs.by (fun _ hr => XS.iconst X6.here hx rfl (hb hby at_45) hr) ?_
    show Runs p e below _ (T6.setTop (mkF m 46 #[.val (.int p0), .val (.long q1), .second, .val (.long q2), .second, .val (.long q3), .second, .val (.long q4), .second, .val (.int (1 : Int32)), .val (.double (FP.l2d q1)), .second, .val (.double (FP.l2d q2)), .second, .val (.double (FP.l2d q3)), .second, .val (.double (FP.l2d q4)), .second, .val (.ref b4), .unset, .unset, .unset, .unset] [(.int (1 : Int32)), (.int (1 : Int32))]))
    have hc46 : ¬ ((1 : Int32) < (1 : Int32)) := (by decide)
    refine Runs.by (fun _ hr => XS.icmpYes X6.here hx rfl (pc0 := 46) (pc' := 55) rfl (hb hby at_46) rfl (flt hc46).2.2.2 (by decide) (by decide) hr) ?_
    show Runs p e below _ (T6.setTop (mkF m 55 #[.val (.int p0), .val (.long q1), .second, .val (.long q2), .second, .val (.long q3), .second, .val (.long q4), .second, .val (.int (1 : Int32)), .val (.double (FP.l2d q1)), .second, .val (.double (FP.l2d q2)), .second, .val (.double (FP.l2d q3)), .second, .val (.double (FP.l2d q4)), .second, .val (.ref b4), .unset, .unset, .unset, .unset] []))
    refine Runs.by (fun _ hr => XS.iload X6.here hx rfl (hb hby at_55) rfl  hr) ?_
    show Runs p e below _ (T6.setTop (mkF m 57 #[.val (.int p0), .val (.long q1), .second, .val (.long q2), .second, .val (.long q3), .second, .val (.long q4), .second, .val (.int (1 : Int32)), .val (.double (FP.l2d q1)), .second, .val (.double (FP.l2d q2)), .second, .val (.double (FP.l2d q3)), .second, .val (.double (FP.l2d q4)), .second, .val (.ref b4), .unset, .unset, .unset, .unset] [(.int (1 : Int32))]))
    refine Runs.by (fun _ hr => XS.iconst X6.here hx rfl (hb hby at_57) hr) ?_
    show Runs p e below _ (T6.setTop (mkF m 58 #[.val (.int p0), .val (.long q1), .second, .val (.long q2), .second, .val (.long q3), .second, .val (.long q4), .second, .val (.int (1 : Int32)), .val (.double (FP.l2d q1)), .second, .val (.double (FP.l2d q2)), .second, .val (.double (FP.l2d q3)), .second, .val (.double (FP.l2d q4)), .second, .val (.ref b4), .unset, .unset, .unset, .unset] [(.int (2 : Int32)), (.int (1 : Int32))]))
    have hc58 : ¬ ((2 : Int32) < (1 : Int32)) := (by decide)
    refine Runs.by (fun _ hr => XS.icmpYes X6.here hx rfl (pc0 := 58) (pc' := 67) rfl (hb hby at_58) rfl (flt hc58).2.2.2 (by decide) (by decide) hr) ?_
    show Runs p e below _ (T6.setTop (mkF m 67 #[.val (.int p0), .val (.long q1), .second, .val (.long q2), .second, .val (.long q3), .second, .val (.long q4), .second, .val (.int (1 : Int32)), .val (.double (FP.l2d q1)), .second, .val (.double (FP.l2d q2)), .second, .val (.double (FP.l2d q3)), .second, .val (.double (FP.l2d q4)), .second, .val (.ref b4), .unset, .unset, .unset, .unset] []))
    refine Runs.by (fun _ hr => XS.iload X6.here hx rfl (hb hby at_67) rfl  hr) ?_
    show Runs p e below _ (T6.setTop (mkF m 69 #[.val (.int p0), .val (.long q1), .second, .val (.long q2), .second, .val (.long q3), .second, .val (.long q4), .second, .val (.int (1 : Int32)), .val (.double (FP.l2d q1)), .second, .val (.double (FP.l2d q2)), .second, .val (.double (FP.l2d q3)), .second, .val (.double (FP.l2d q4)), .second, .val (.ref b4), .unset, .unset, .unset, .unset] [(.int (1 : Int32))]))
    refine Runs.by (fun _ hr => XS.iconst X6.here hx rfl (hb hby at_69) hr) ?_
    show Runs p e below _ (T6.setTop (mkF m 70 #[.val (.int p0), .val (.long q1), .second, .val (.long q2), .second, .val (.long q3), .second, .val (.long q4), .second, .val (.int (1 : Int32)), .val (.double (FP.l2d q1)), .second, .val (.double (FP.l2d q2)), .second, .val (.double (FP.l2d q3)), .second, .val (.double (FP.l2d q4)), .second, .val (.ref b4), .unset, .unset, .unset, .unset] [(.int (3 : Int32)), (.int (1 : Int32))]))
    have hc70 : ¬ ((3 : Int32) < (1 : Int32)) := (by decide)
    refine Runs.by (fun _ hr => XS.icmpYes X6.here hx rfl (pc0 := 70) (pc' := 79) rfl (hb hby at_70) rfl (flt hc70).2.2.2 (by decide) (by decide) hr) ?_
    show Runs p e below _ (T6.setTop (mkF m 79 #[.val (.int p0), .val (.long q1), .second, .val (.long q2), .second, .val (.long q3), .second, .val (.long q4), .second, .val (.int (1 : Int32)), .val (.double (FP.l2d q1)), .second, .val (.double (FP.l2d q2)), .second, .val (.double (FP.l2d q3)), .second, .val (.double (FP.l2d q4)), .second, .val (.ref b4), .unset, .unset, .unset, .unset] []))
    refine Runs.by (fun _ hr => XS.dconst0 X6.here hx rfl (hb hby at_79) rfl hr) ?_
    show Runs p e below _ (T6.setTop (mkF m 80 #[.val (.int p0), .val (.long q1), .second, .val (.long q2), .second, .val (.long q3), .second, .val (.long q4), .second, .val (.int (1 : Int32)), .val (.double (FP.l2d q1)), .second, .val (.double (FP.l2d q2)), .second, .val (.double (FP.l2d q3)), .second, .val (.double (FP.l2d q4)), .second, .val (.ref b4), .unset, .unset, .unset, .unset] [(.double FP.dconst0)]))
    refine Runs.by (fun _ hr => XS.dstore X6.here hx rfl (hb hby at_80) rfl (l' := #[.val (.int p0), .val (.long q1), .second, .val (.long q2), .second, .val (.long q3), .second, .val (.long q4), .second, .val (.int (1 : Int32)), .val (.double (FP.l2d q1)), .second, .val (.double (FP.l2d q2)), .second, .val (.double (FP.l2d q3)), .second, .val (.double (FP.l2d q4)), .second, .val (.ref b4), .val (.double FP.dconst0), .second, .unset, .unset]) rfl hr) ?_
    show Runs p e below _ (T6.setTop (mkF m 82 #[.val (.int p0), .val (.long q1), .second, .val (.long q2), .second, .val (.long q3), .second, .val (.long q4), .second, .val (.int (1 : Int32)), .val (.double (FP.l2d q1)), .second, .val (.double (FP.l2d q2)), .second, .val (.double (FP.l2d q3)), .second, .val (.double (FP.l2d q4)), .second, .val (.ref b4), .val (.double FP.dconst0), .second, .unset, .unset] []))
    refine Runs.by (fun _ hr => XS.iload X6.here hx rfl (hb hby at_82) rfl  hr) ?_
    show Runs p e below _ (T6.setTop (mkF m 84 #[.val (.int p0), .val (.long q1), .second, .val (.long q2), .second, .val (.long q3), .second, .val (.long q4), .second, .val (.int (1 : Int32)), .val (.double (FP.l2d q1)), .second, .val (.double (FP.l2d q2)), .second, .val (.double (FP.l2d q3)), .second, .val (.double (FP.l2d q4)), .second, .val (.ref b4), .val (.double FP.dconst0), .second, .unset, .unset] [(.int (1 : Int32))]))
    have hc84 : (0 : Int32) < (1 : Int32) := (by decide)
    refine Runs.by (fun _ hr => XS.ifNo X6.here hx rfl (hb hby at_84) rfl ((if0 _ _).trans (tlt hc84).2.2.2) hr) ?_
    show Runs p e below _ (T6.setTop (mkF m 87 #[.val (.int p0), .val (.long q1), .second, .val (.long q2), .second, .val (.long q3), .second, .val (.long q4), .second, .val (.int (1 : Int32)), .val (.double (FP.l2d q1)), .second, .val (.double (FP.l2d q2)), .second, .val (.double (FP.l2d q3)), .second, .val (.double (FP.l2d q4)), .second, .val (.ref b4), .val (.double FP.dconst0), .second, .unset, .unset] []))
    refine Runs.by (fun _ hr => XS.dload X6.here hx rfl (hb hby at_87) rfl  hr) ?_
    show Runs p e below _ (T6.setTop (mkF m 89 #[.val (.int p0), .val (.long q1), .second, .val (.long q2), .second, .val (.long q3), .second, .val (.long q4), .second, .val (.int (1 : Int32)), .val (.double (FP.l2d q1)), .second, .val (.double (FP.l2d q2)), .second, .val (.double (FP.l2d q3)), .second, .val (.double (FP.l2d q4)), .second, .val (.ref b4), .val (.double FP.dconst0), .second, .unset, .unset] [(.double FP.dconst0)]))
    refine Runs.by (fun _ hr => XS.dload X6.here hx rfl (hb hby at_89) rfl  hr) ?_
    show Runs p e below _ (T6.setTop (mkF m 91 #[.val (.int p0), .val (.long q1), .second, .val (.long q2), .second, .val (.long q3), .second, .val (.long q4), .second, .val (.int (1 : Int32)), .val (.double (FP.l2d q1)), .second, .val (.double (FP.l2d q2)), .second, .val (.double (FP.l2d q3)), .second, .val (.double (FP.l2d q4)), .second, .val (.ref b4), .val (.double FP.dconst0), .second, .unset, .unset] [(.double (FP.l2d q1)), (.double FP.dconst0)]))
    refine Runs.by (fun _ hr => XS.daddS X6.here hx rfl (hb hby at_91) rfl (Jvm.Free.Fl.dadd_out own_d0 (Jvm.Free.Fl.l2d_fin q1)) rfl hr) ?_
    show Runs p e below _ (T6.setTop (mkF m 92 #[.val (.int p0), .val (.long q1), .second, .val (.long q2), .second, .val (.long q3), .second, .val (.long q4), .second, .val (.int (1 : Int32)), .val (.double (FP.l2d q1)), .second, .val (.double (FP.l2d q2)), .second, .val (.double (FP.l2d q3)), .second, .val (.double (FP.l2d q4)), .second, .val (.ref b4), .val (.double FP.dconst0), .second, .unset, .unset] [(.double (FP.dadd FP.dconst0 (FP.l2d q1)))]))
    refine Runs.by (fun _ hr => XS.dstore X6.here hx rfl (hb hby at_92) rfl (l' := #[.val (.int p0), .val (.long q1), .second, .val (.long q2), .second, .val (.long q3), .second, .val (.long q4), .second, .val (.int (1 : Int32)), .val (.double (FP.l2d q1)), .second, .val (.double (FP.l2d q2)), .second, .val (.double (FP.l2d q3)), .second, .val (.double (FP.l2d q4)), .second, .val (.ref b4), .val (.double (FP.dadd FP.dconst0 (FP.l2d q1))), .second, .unset, .unset]) rfl hr) ?_
    show Runs p e below _ (T6.setTop (mkF m 94 #[.val (.int p0), .val (.long q1), .second, .val (.long q2), .second, .val (.long q3), .second, .val (.long q4), .second, .val (.int (1 : Int32)), .val (.double (FP.l2d q1)), .second, .val (.double (FP.l2d q2)), .second, .val (.double (FP.l2d q3)), .second, .val (.double (FP.l2d q4)), .second, .val (.ref b4), .val (.double (FP.dadd FP.dconst0 (FP.l2d q1))), .second, .unset, .unset] []))
    refine Runs.by (fun _ hr => XS.iload X6.here hx rfl (hb hby at_94) rfl  hr) ?_
    show Runs p e below _ (T6.setTop (mkF m 96 #[.val (.int p0), .val (.long q1), .second, .val (.long q2), .second, .val (.long q3), .second, .val (.long q4), .second, .val (.int (1 : Int32)), .val (.double (FP.l2d q1)), .second, .val (.double (FP.l2d q2)), .second, .val (.double (FP.l2d q3)), .second, .val (.double (FP.l2d q4)), .second, .val (.ref b4), .val (.double (FP.dadd FP.dconst0 (FP.l2d q1))), .second, .unset, .unset] [(.int (1 : Int32))]))
    refine Runs.by (fun _ hr => XS.iconst X6.here hx rfl (hb hby at_96) hr) ?_
    show Runs p e below _ (T6.setTop (mkF m 97 #[.val (.int p0), .val (.long q1), .second, .val (.long q2), .second, .val (.long q3), .second, .val (.long q4), .second, .val (.int (1 : Int32)), .val (.double (FP.l2d q1)), .second, .val (.double (FP.l2d q2)), .second, .val (.double (FP.l2d q3)), .second, .val (.double (FP.l2d q4)), .second, .val (.ref b4), .val (.double (FP.dadd FP.dconst0 (FP.l2d q1))), .second, .unset, .unset] [(.int (1 : Int32)), (.int (1 : Int32))]))
    have hc97 : ¬ ((1 : Int32) < (1 : Int32)) := (by decide)
    refine Runs.by (fun _ hr => XS.icmpYes X6.here hx rfl (pc0 := 97) (pc' := 107) rfl (hb hby at_97) rfl (flt hc97).2.2.2 (by decide) (by decide) hr) ?_
    show Runs p e below _ (T6.setTop (mkF m 107 #[.val (.int p0), .val (.long q1), .second, .val (.long q2), .second, .val (.long q3), .second, .val (.long q4), .second, .val (.int (1 : Int32)), .val (.double (FP.l2d q1)), .second, .val (.double (FP.l2d q2)), .second, .val (.double (FP.l2d q3)), .second, .val (.double (FP.l2d q4)), .second, .val (.ref b4), .val (.double (FP.dadd FP.dconst0 (FP.l2d q1))), .second, .unset, .unset] []))
    refine Runs.by (fun _ hr => XS.iload X6.here hx rfl (hb hby at_107) rfl  hr) ?_
    show Runs p e below _ (T6.setTop (mkF m 109 #[.val (.int p0), .val (.long q1), .second, .val (.long q2), .second, .val (.long q3), .second, .val (.long q4), .second, .val (.int (1 : Int32)), .val (.double (FP.l2d q1)), .second, .val (.double (FP.l2d q2)), .second, .val (.double (FP.l2d q3)), .second, .val (.double (FP.l2d q4)), .second, .val (.ref b4), .val (.double (FP.dadd FP.dconst0 (FP.l2d q1))), .second, .unset, .unset] [(.int (1 : Int32))]))
    refine Runs.by (fun _ hr => XS.iconst X6.here hx rfl (hb hby at_109) hr) ?_
    show Runs p e below _ (T6.setTop (mkF m 110 #[.val (.int p0), .val (.long q1), .second, .val (.long q2), .second, .val (.long q3), .second, .val (.long q4), .second, .val (.int (1 : Int32)), .val (.double (FP.l2d q1)), .second, .val (.double (FP.l2d q2)), .second, .val (.double (FP.l2d q3)), .second, .val (.double (FP.l2d q4)), .second, .val (.ref b4), .val (.double (FP.dadd FP.dconst0 (FP.l2d q1))), .second, .unset, .unset] [(.int (2 : Int32)), (.int (1 : Int32))]))
    have hc110 : ¬ ((2 : Int32) < (1 : Int32)) := (by decide)
    refine Runs.by (fun _ hr => XS.icmpYes X6.here hx rfl (pc0 := 110) (pc' := 120) rfl (hb hby at_110) rfl (flt hc110).2.2.2 (by decide) (by decide) hr) ?_
    show Runs p e below _ (T6.setTop (mkF m 120 #[.val (.int p0), .val (.long q1), .second, .val (.long q2), .second, .val (.long q3), .second, .val (.long q4), .second, .val (.int (1 : Int32)), .val (.double (FP.l2d q1)), .second, .val (.double (FP.l2d q2)), .second, .val (.double (FP.l2d q3)), .second, .val (.double (FP.l2d q4)), .second, .val (.ref b4), .val (.double (FP.dadd FP.dconst0 (FP.l2d q1))), .second, .unset, .unset] []))
    refine Runs.by (fun _ hr => XS.iload X6.here hx rfl (hb hby at_120) rfl  hr) ?_
    show Runs p e below _ (T6.setTop (mkF m 122 #[.val (.int p0), .val (.long q1), .second, .val (.long q2), .second, .val (.long q3), .second, .val (.long q4), .second, .val (.int (1 : Int32)), .val (.double (FP.l2d q1)), .second, .val (.double (FP.l2d q2)), .second, .val (.double (FP.l2d q3)), .second, .val (.double (FP.l2d q4)), .second, .val (.ref b4), .val (.double (FP.dadd FP.dconst0 (FP.l2d q1))), .second, .unset, .unset] [(.int (1 : Int32))]))
    refine Runs.by (fun _ hr => XS.iconst X6.here hx rfl (hb hby at_122) hr) ?_
    show Runs p e below _ (T6.setTop (mkF m 123 #[.val (.int p0), .val (.long q1), .second, .val (.long q2), .second, .val (.long q3), .second, .val (.long q4), .second, .val (.int (1 : Int32)), .val (.double (FP.l2d q1)), .second, .val (.double (FP.l2d q2)), .second, .val (.double (FP.l2d q3)), .second, .val (.double (FP.l2d q4)), .second, .val (.ref b4), .val (.double (FP.dadd FP.dconst0 (FP.l2d q1))), .second, .unset, .unset] [(.int (3 : Int32)), (.int (1 : Int32))]))
    have hc123 : ¬ ((3 : Int32) < (1 : Int32)) := (by decide)
    refine Runs.by (fun _ hr => XS.icmpYes X6.here hx rfl (pc0 := 123) (pc' := 133) rfl (hb hby at_123) rfl (flt hc123).2.2.2 (by decide) (by decide) hr) ?_
    show Runs p e below _ (T6.setTop (mkF m 133 #[.val (.int p0), .val (.long q1), .second, .val (.long q2), .second, .val (.long q3), .second, .val (.long q4), .second, .val (.int (1 : Int32)), .val (.double (FP.l2d q1)), .second, .val (.double (FP.l2d q2)), .second, .val (.double (FP.l2d q3)), .second, .val (.double (FP.l2d q4)), .second, .val (.ref b4), .val (.double (FP.dadd FP.dconst0 (FP.l2d q1))), .second, .unset, .unset] []))
    refine Runs.by (fun _ hr => XS.aload X6.here hx rfl (hb hby at_133) rfl rfl hr) ?_
    show Runs p e below _ (T6.setTop (mkF m 135 #[.val (.int p0), .val (.long q1), .second, .val (.long q2), .second, .val (.long q3), .second, .val (.long q4), .second, .val (.int (1 : Int32)), .val (.double (FP.l2d q1)), .second, .val (.double (FP.l2d q2)), .second, .val (.double (FP.l2d q3)), .second, .val (.double (FP.l2d q4)), .second, .val (.ref b4), .val (.double (FP.dadd FP.dconst0 (FP.l2d q1))), .second, .unset, .unset] [(.ref b4)]))
    obtain ⟨_, _, ⟨T8, L8, k8, n8⟩, -, X8, ⟨Lc8, hQ8, l8, y8, z8⟩, st8⟩ := Jvm.LawKit.callS X6 hx (y := (⟨"com/example/threshold/threshold/engine/Bm25", "sum", "([D)D"⟩ : MethodName)) hown (mvT hZ (hw _ (List.mem_of_getElem? (i := 2) rfl))) (mvT hZ (hw _ (List.mem_of_getElem? (i := 3) rfl))) (mvT hZ (hw _ (List.mem_of_getElem? (i := 4) rfl))) (mvT hZ (hw _ (List.mem_of_getElem? (i := 5) rfl))) (by decide) (backOf (W := 0) (rm1_1 l Z a0 hw [] b4 k4 (FP.l2d q1) h6 n0 (Nat.le_trans Z0 K7.1) V6 (Jvm.Free.Fl.l2d_fin q1)) hZ (hw _ (List.mem_of_getElem? (i := 5) rfl)) (hw _ (List.mem_of_getElem? (i := 4) rfl)) (by decide) (by decide)) (g := (mkF m 135 #[.val (.int p0), .val (.long q1), .second, .val (.long q2), .second, .val (.long q3), .second, .val (.long q4), .second, .val (.int (1 : Int32)), .val (.double (FP.l2d q1)), .second, .val (.double (FP.l2d q2)), .second, .val (.double (FP.l2d q3)), .second, .val (.double (FP.l2d q4)), .second, .val (.ref b4), .val (.double (FP.dadd FP.dconst0 (FP.l2d q1))), .second, .unset, .unset] [(.ref b4)])) rfl (by rw [hml]; rfl) (argsL := [(.ref b4)]) (rest := []) (lenOf pd_0 rfl) rfl (by show 2 * 0 + _ ≤ _; exact Nat.le_of_eq rfl) (hb hby at_135) (fun _ _ => ⟨rfl, e6, (by decide : 1 + 0 ≤ _), (by decide : 1 + 0 ≤ _)⟩)
    dsimp only [Pt.U, Pt.locs, Pt.cells, Pt.slots] at X8 l8 y8 z8 st8 hQ8
    subst l8 y8 z8
    obtain ⟨rfl, Nq8, eq8⟩ := hQ8
    have N8 := Fr.app N6 Nq8
    refine Runs.by (fun t hr => st8 t hr) ?_
    show Runs p e below _ (T8.setTop (mkF m 138 #[.val (.int p0), .val (.long q1), .second, .val (.long q2), .second, .val (.long q3), .second, .val (.long q4), .second, .val (.int (1 : Int32)), .val (.double (FP.l2d q1)), .second, .val (.double (FP.l2d q2)), .second, .val (.double (FP.l2d q3)), .second, .val (.double (FP.l2d q4)), .second, .val (.ref b4), .val (.double (FP.dadd FP.dconst0 (FP.l2d q1))), .second, .unset, .unset] [(.double (FP.dadd FP.dconst0 (FP.l2d q1)))]))
    refine Runs.by (fun _ hr => XS.dstore X8.here hx rfl (hb hby at_138) rfl (l' := #[.val (.int p0), .val (.long q1), .second, .val (.long q2), .second, .val (.long q3), .second, .val (.long q4), .second, .val (.int (1 : Int32)), .val (.double (FP.l2d q1)), .second, .val (.double (FP.l2d q2)), .second, .val (.double (FP.l2d q3)), .second, .val (.double (FP.l2d q4)), .second, .val (.ref b4), .val (.double (FP.dadd FP.dconst0 (FP.l2d q1))), .second, .val (.double (FP.dadd FP.dconst0 (FP.l2d q1))), .second]) rfl hr) ?_
    show Runs p e below _ (T8.setTop (mkF m 140 #[.val (.int p0), .val (.long q1), .second, .val (.long q2), .second, .val (.long q3), .second, .val (.long q4), .second, .val (.int (1 : Int32)), .val (.double (FP.l2d q1)), .second, .val (.double (FP.l2d q2)), .second, .val (.double (FP.l2d q3)), .second, .val (.double (FP.l2d q4)), .second, .val (.ref b4), .val (.double (FP.dadd FP.dconst0 (FP.l2d q1))), .second, .val (.double (FP.dadd FP.dconst0 (FP.l2d q1))), .second] []))
    refine Runs.by (fun _ hr => XS.dload X8.here hx rfl (hb hby at_140) rfl  hr) ?_
    show Runs p e below _ (T8.setTop (mkF m 142 #[.val (.int p0), .val (.long q1), .second, .val (.long q2), .second, .val (.long q3), .second, .val (.long q4), .second, .val (.int (1 : Int32)), .val (.double (FP.l2d q1)), .second, .val (.double (FP.l2d q2)), .second, .val (.double (FP.l2d q3)), .second, .val (.double (FP.l2d q4)), .second, .val (.ref b4), .val (.double (FP.dadd FP.dconst0 (FP.l2d q1))), .second, .val (.double (FP.dadd FP.dconst0 (FP.l2d q1))), .second] [(.double (FP.dadd FP.dconst0 (FP.l2d q1)))]))
    refine Runs.by (fun _ hr => XS.dload X8.here hx rfl (hb hby at_142) rfl  hr) ?_
    show Runs p e below _ (T8.setTop (mkF m 144 #[.val (.int p0), .val (.long q1), .second, .val (.long q2), .second, .val (.long q3), .second, .val (.long q4), .second, .val (.int (1 : Int32)), .val (.double (FP.l2d q1)), .second, .val (.double (FP.l2d q2)), .second, .val (.double (FP.l2d q3)), .second, .val (.double (FP.l2d q4)), .second, .val (.ref b4), .val (.double (FP.dadd FP.dconst0 (FP.l2d q1))), .second, .val (.double (FP.dadd FP.dconst0 (FP.l2d q1))), .second] [(.double (FP.dadd FP.dconst0 (FP.l2d q1))), (.double (FP.dadd FP.dconst0 (FP.l2d q1)))]))
    refine Runs.by (fun _ hr => XS.dcmpS X8.here hx rfl (hb hby at_144) rfl (dcmpV_self (Jvm.Free.Fl.dadd_out own_d0 (Jvm.Free.Fl.l2d_fin q1)) _) hr) ?_
    show Runs p e below _ (T8.setTop (mkF m 145 #[.val (.int p0), .val (.long q1), .second, .val (.long q2), .second, .val (.long q3), .second, .val (.long q4), .second, .val (.int (1 : Int32)), .val (.double (FP.l2d q1)), .second, .val (.double (FP.l2d q2)), .second, .val (.double (FP.l2d q3)), .second, .val (.double (FP.l2d q4)), .second, .val (.ref b4), .val (.double (FP.dadd FP.dconst0 (FP.l2d q1))), .second, .val (.double (FP.dadd FP.dconst0 (FP.l2d q1))), .second] [(.int (0 : Int32))]))
    have hc145 : (0 : Int32) = (0 : Int32) := (by decide)
    refine Runs.by (fun _ hr => XS.ifNo X8.here hx rfl (hb hby at_145) rfl ((if0 _ _).trans (teq hc145).2) hr) ?_
    show Runs p e below _ (T8.setTop (mkF m 148 #[.val (.int p0), .val (.long q1), .second, .val (.long q2), .second, .val (.long q3), .second, .val (.long q4), .second, .val (.int (1 : Int32)), .val (.double (FP.l2d q1)), .second, .val (.double (FP.l2d q2)), .second, .val (.double (FP.l2d q3)), .second, .val (.double (FP.l2d q4)), .second, .val (.ref b4), .val (.double (FP.dadd FP.dconst0 (FP.l2d q1))), .second, .val (.double (FP.dadd FP.dconst0 (FP.l2d q1))), .second] []))
    refine Runs.by (fun _ hr => XS.iconst X8.here hx rfl (hb hby at_148) hr) ?_
    show Runs p e below _ (T8.setTop (mkF m 149 #[.val (.int p0), .val (.long q1), .second, .val (.long q2), .second, .val (.long q3), .second, .val (.long q4), .second, .val (.int (1 : Int32)), .val (.double (FP.l2d q1)), .second, .val (.double (FP.l2d q2)), .second, .val (.double (FP.l2d q3)), .second, .val (.double (FP.l2d q4)), .second, .val (.ref b4), .val (.double (FP.dadd FP.dconst0 (FP.l2d q1))), .second, .val (.double (FP.dadd FP.dconst0 (FP.l2d q1))), .second] [(.int (1 : Int32))]))
    refine Runs.by (fun _ hr => XS.goto X8.here hx rfl (pc0 := 149) (pc' := 153) rfl (hb hby at_149) (by decide) (by decide) hr) ?_
    show Runs p e below _ (T8.setTop (mkF m 153 #[.val (.int p0), .val (.long q1), .second, .val (.long q2), .second, .val (.long q3), .second, .val (.long q4), .second, .val (.int (1 : Int32)), .val (.double (FP.l2d q1)), .second, .val (.double (FP.l2d q2)), .second, .val (.double (FP.l2d q3)), .second, .val (.double (FP.l2d q4)), .second, .val (.ref b4), .val (.double (FP.dadd FP.dconst0 (FP.l2d q1))), .second, .val (.double (FP.dadd FP.dconst0 (FP.l2d q1))), .second] [(.int (1 : Int32))]))
    refine Runs.ret X8 hx hrt hlk (Or.inl ⟨rfl, by simp, _, rfl⟩) (by rfl) (hb hby at_153) (by decide) (by decide) ?_
    rw [eq8]
    exact ⟨rfl, N8⟩
  · skip
    show Runs p e below _ (s₁.setTop (mkF m 8 #[.val (.int p0), .val (.long q1), .second, .val (.long q2), .second, .val (.long q3), .second, .val (.long q4), .second, .val (.int (2 : Int32)), .unset, .unset, .unset, .unset, .unset, .unset, .unset, .unset, .unset, .unset, .unset, .unset, .unset] []))
    refine Runs.by (fun _ hr => XS.lloadN X0.here hx rfl (hb hby at_8) rfl  hr) ?_
    show Runs p e below _ (s₁.setTop (mkF m 9 #[.val (.int p0), .val (.long q1), .second, .val (.long q2), .second, .val (.long q3), .second, .val (.long q4), .second, .val (.int (2 : Int32)), .unset, .unset, .unset, .unset, .unset, .unset, .unset, .unset, .unset, .unset, .unset, .unset, .unset] [(.long q1)]))
    refine Runs.by (fun _ hr => XS.l2dS X0.here hx rfl (hb hby at_9) rfl rfl hr) ?_
    show Runs p e below _ (s₁.setTop (mkF m 10 #[.val (.int p0), .val (.long q1), .second, .val (.long q2), .second, .val (.long q3), .second, .val (.long q4), .second, .val (.int (2 : Int32)), .unset, .unset, .unset, .unset, .unset, .unset, .unset, .unset, .unset, .unset, .unset, .unset, .unset] [(.double (FP.l2d q1))]))
    refine Runs.by (fun _ hr => XS.dstore X0.here hx rfl (hb hby at_10) rfl (l' := #[.val (.int p0), .val (.long q1), .second, .val (.long q2), .second, .val (.long q3), .second, .val (.long q4), .second, .val (.int (2 : Int32)), .val (.double (FP.l2d q1)), .second, .unset, .unset, .unset, .unset, .unset, .unset, .unset, .unset, .unset, .unset, .unset]) rfl hr) ?_
    show Runs p e below _ (s₁.setTop (mkF m 12 #[.val (.int p0), .val (.long q1), .second, .val (.long q2), .second, .val (.long q3), .second, .val (.long q4), .second, .val (.int (2 : Int32)), .val (.double (FP.l2d q1)), .second, .unset, .unset, .unset, .unset, .unset, .unset, .unset, .unset, .unset, .unset, .unset] []))
    refine Runs.by (fun _ hr => XS.lloadN X0.here hx rfl (hb hby at_12) rfl  hr) ?_
    show Runs p e below _ (s₁.setTop (mkF m 13 #[.val (.int p0), .val (.long q1), .second, .val (.long q2), .second, .val (.long q3), .second, .val (.long q4), .second, .val (.int (2 : Int32)), .val (.double (FP.l2d q1)), .second, .unset, .unset, .unset, .unset, .unset, .unset, .unset, .unset, .unset, .unset, .unset] [(.long q2)]))
    refine Runs.by (fun _ hr => XS.l2dS X0.here hx rfl (hb hby at_13) rfl rfl hr) ?_
    show Runs p e below _ (s₁.setTop (mkF m 14 #[.val (.int p0), .val (.long q1), .second, .val (.long q2), .second, .val (.long q3), .second, .val (.long q4), .second, .val (.int (2 : Int32)), .val (.double (FP.l2d q1)), .second, .unset, .unset, .unset, .unset, .unset, .unset, .unset, .unset, .unset, .unset, .unset] [(.double (FP.l2d q2))]))
    refine Runs.by (fun _ hr => XS.dstore X0.here hx rfl (hb hby at_14) rfl (l' := #[.val (.int p0), .val (.long q1), .second, .val (.long q2), .second, .val (.long q3), .second, .val (.long q4), .second, .val (.int (2 : Int32)), .val (.double (FP.l2d q1)), .second, .val (.double (FP.l2d q2)), .second, .unset, .unset, .unset, .unset, .unset, .unset, .unset, .unset, .unset]) rfl hr) ?_
    show Runs p e below _ (s₁.setTop (mkF m 16 #[.val (.int p0), .val (.long q1), .second, .val (.long q2), .second, .val (.long q3), .second, .val (.long q4), .second, .val (.int (2 : Int32)), .val (.double (FP.l2d q1)), .second, .val (.double (FP.l2d q2)), .second, .unset, .unset, .unset, .unset, .unset, .unset, .unset, .unset, .unset] []))
    refine Runs.by (fun _ hr => XS.lload X0.here hx rfl (hb hby at_16) rfl  hr) ?_
    show Runs p e below _ (s₁.setTop (mkF m 18 #[.val (.int p0), .val (.long q1), .second, .val (.long q2), .second, .val (.long q3), .second, .val (.long q4), .second, .val (.int (2 : Int32)), .val (.double (FP.l2d q1)), .second, .val (.double (FP.l2d q2)), .second, .unset, .unset, .unset, .unset, .unset, .unset, .unset, .unset, .unset] [(.long q3)]))
    refine Runs.by (fun _ hr => XS.l2dS X0.here hx rfl (hb hby at_18) rfl rfl hr) ?_
    show Runs p e below _ (s₁.setTop (mkF m 19 #[.val (.int p0), .val (.long q1), .second, .val (.long q2), .second, .val (.long q3), .second, .val (.long q4), .second, .val (.int (2 : Int32)), .val (.double (FP.l2d q1)), .second, .val (.double (FP.l2d q2)), .second, .unset, .unset, .unset, .unset, .unset, .unset, .unset, .unset, .unset] [(.double (FP.l2d q3))]))
    refine Runs.by (fun _ hr => XS.dstore X0.here hx rfl (hb hby at_19) rfl (l' := #[.val (.int p0), .val (.long q1), .second, .val (.long q2), .second, .val (.long q3), .second, .val (.long q4), .second, .val (.int (2 : Int32)), .val (.double (FP.l2d q1)), .second, .val (.double (FP.l2d q2)), .second, .val (.double (FP.l2d q3)), .second, .unset, .unset, .unset, .unset, .unset, .unset, .unset]) rfl hr) ?_
    show Runs p e below _ (s₁.setTop (mkF m 21 #[.val (.int p0), .val (.long q1), .second, .val (.long q2), .second, .val (.long q3), .second, .val (.long q4), .second, .val (.int (2 : Int32)), .val (.double (FP.l2d q1)), .second, .val (.double (FP.l2d q2)), .second, .val (.double (FP.l2d q3)), .second, .unset, .unset, .unset, .unset, .unset, .unset, .unset] []))
    refine Runs.by (fun _ hr => XS.lload X0.here hx rfl (hb hby at_21) rfl  hr) ?_
    show Runs p e below _ (s₁.setTop (mkF m 23 #[.val (.int p0), .val (.long q1), .second, .val (.long q2), .second, .val (.long q3), .second, .val (.long q4), .second, .val (.int (2 : Int32)), .val (.double (FP.l2d q1)), .second, .val (.double (FP.l2d q2)), .second, .val (.double (FP.l2d q3)), .second, .unset, .unset, .unset, .unset, .unset, .unset, .unset] [(.long q4)]))
    refine Runs.by (fun _ hr => XS.l2dS X0.here hx rfl (hb hby at_23) rfl rfl hr) ?_
    show Runs p e below _ (s₁.setTop (mkF m 24 #[.val (.int p0), .val (.long q1), .second, .val (.long q2), .second, .val (.long q3), .second, .val (.long q4), .second, .val (.int (2 : Int32)), .val (.double (FP.l2d q1)), .second, .val (.double (FP.l2d q2)), .second, .val (.double (FP.l2d q3)), .second, .unset, .unset, .unset, .unset, .unset, .unset, .unset] [(.double (FP.l2d q4))]))
    refine Runs.by (fun _ hr => XS.dstore X0.here hx rfl (hb hby at_24) rfl (l' := #[.val (.int p0), .val (.long q1), .second, .val (.long q2), .second, .val (.long q3), .second, .val (.long q4), .second, .val (.int (2 : Int32)), .val (.double (FP.l2d q1)), .second, .val (.double (FP.l2d q2)), .second, .val (.double (FP.l2d q3)), .second, .val (.double (FP.l2d q4)), .second, .unset, .unset, .unset, .unset, .unset]) rfl hr) ?_
    show Runs p e below _ (s₁.setTop (mkF m 26 #[.val (.int p0), .val (.long q1), .second, .val (.long q2), .second, .val (.long q3), .second, .val (.long q4), .second, .val (.int (2 : Int32)), .val (.double (FP.l2d q1)), .second, .val (.double (FP.l2d q2)), .second, .val (.double (FP.l2d q3)), .second, .val (.double (FP.l2d q4)), .second, .unset, .unset, .unset, .unset, .unset] []))
    refine Runs.by (fun _ hr => XS.iload X0.here hx rfl (hb hby at_26) rfl  hr) ?_
    show Runs p e below _ (s₁.setTop (mkF m 28 #[.val (.int p0), .val (.long q1), .second, .val (.long q2), .second, .val (.long q3), .second, .val (.long q4), .second, .val (.int (2 : Int32)), .val (.double (FP.l2d q1)), .second, .val (.double (FP.l2d q2)), .second, .val (.double (FP.l2d q3)), .second, .val (.double (FP.l2d q4)), .second, .unset, .unset, .unset, .unset, .unset] [(.int (2 : Int32))]))
    obtain ⟨T9, h9, k9, X9, e9, E9, A9, st9⟩ := newP X0 hx hZ (hw _ (List.mem_of_getElem? (i := 1) rfl)) e0 (g := (mkF m 28 #[.val (.int p0), .val (.long q1), .second, .val (.long q2), .second, .val (.long q3), .second, .val (.long q4), .second, .val (.int (2 : Int32)), .val (.double (FP.l2d q1)), .second, .val (.double (FP.l2d q2)), .second, .val (.double (FP.l2d q3)), .second, .val (.double (FP.l2d q4)), .second, .unset, .unset, .unset, .unset, .unset] [(.int (2 : Int32))])) rfl (hb hby at_28) rfl (by decide) (cap := 2) (by decide) (by decide) (by decide) (by decide)
    obtain ⟨b9, gz9⟩ : ∃ z, z = h0.size := ⟨_, rfl⟩
    rw [← gz9] at A9 st9
    have g_b9 : n0 ≤ b9 := Nat.le_trans (Nat.le_trans Z0 K0.1) (Nat.le_of_eq gz9.symm)
    have sz_b9 : h0.size ≤ b9 := Nat.le_trans K0.1 (Nat.le_of_eq gz9.symm)
    have K10 : Keep h0 h9 [] := K0.ext E9
    have V9 : Arv Z h9 b9 k9 .double (2 : Int32) [(.double (0 : UInt64)), (.double (0 : UInt64))] (.double (0 : UInt64)) := (Arv.new A9 (by decide)).pad (pad_rep [] (.double (0 : UInt64)) 2)
    refine Runs.by st9 ?_
    show Runs p e below _ (T9.setTop (mkF m 30 #[.val (.int p0), .val (.long q1), .second, .val (.long q2), .second, .val (.long q3), .second, .val (.long q4), .second, .val (.int (2 : Int32)), .val (.double (FP.l2d q1)), .second, .val (.double (FP.l2d q2)), .second, .val (.double (FP.l2d q3)), .second, .val (.double (FP.l2d q4)), .second, .unset, .unset, .unset, .unset, .unset] [(.ref b9)]))
    refine Runs.by (fun _ hr => XS.astore X9.here hx rfl (hb hby at_30) rfl rfl (l' := #[.val (.int p0), .val (.long q1), .second, .val (.long q2), .second, .val (.long q3), .second, .val (.long q4), .second, .val (.int (2 : Int32)), .val (.double (FP.l2d q1)), .second, .val (.double (FP.l2d q2)), .second, .val (.double (FP.l2d q3)), .second, .val (.double (FP.l2d q4)), .second, .val (.ref b9), .unset, .unset, .unset, .unset]) rfl hr) ?_
    show Runs p e below _ (T9.setTop (mkF m 32 #[.val (.int p0), .val (.long q1), .second, .val (.long q2), .second, .val (.long q3), .second, .val (.long q4), .second, .val (.int (2 : Int32)), .val (.double (FP.l2d q1)), .second, .val (.double (FP.l2d q2)), .second, .val (.double (FP.l2d q3)), .second, .val (.double (FP.l2d q4)), .second, .val (.ref b9), .unset, .unset, .unset, .unset] []))
    refine Runs.by (fun _ hr => XS.iload X9.here hx rfl (hb hby at_32) rfl  hr) ?_
    show Runs p e below _ (T9.setTop (mkF m 34 #[.val (.int p0), .val (.long q1), .second, .val (.long q2), .second, .val (.long q3), .second, .val (.long q4), .second, .val (.int (2 : Int32)), .val (.double (FP.l2d q1)), .second, .val (.double (FP.l2d q2)), .second, .val (.double (FP.l2d q3)), .second, .val (.double (FP.l2d q4)), .second, .val (.ref b9), .unset, .unset, .unset, .unset] [(.int (2 : Int32))]))
    have hc34 : (0 : Int32) < (2 : Int32) := (by decide)
    refine Runs.by (fun _ hr => XS.ifNo X9.here hx rfl (hb hby at_34) rfl ((if0 _ _).trans (tlt hc34).2.2.2) hr) ?_
    show Runs p e below _ (T9.setTop (mkF m 37 #[.val (.int p0), .val (.long q1), .second, .val (.long q2), .second, .val (.long q3), .second, .val (.long q4), .second, .val (.int (2 : Int32)), .val (.double (FP.l2d q1)), .second, .val (.double (FP.l2d q2)), .second, .val (.double (FP.l2d q3)), .second, .val (.double (FP.l2d q4)), .second, .val (.ref b9), .unset, .unset, .unset, .unset] []))
    refine Runs.by (fun _ hr => XS.aload X9.here hx rfl (hb hby at_37) rfl rfl hr) ?_
    show Runs p e below _ (T9.setTop (mkF m 39 #[.val (.int p0), .val (.long q1), .second, .val (.long q2), .second, .val (.long q3), .second, .val (.long q4), .second, .val (.int (2 : Int32)), .val (.double (FP.l2d q1)), .second, .val (.double (FP.l2d q2)), .second, .val (.double (FP.l2d q3)), .second, .val (.double (FP.l2d q4)), .second, .val (.ref b9), .unset, .unset, .unset, .unset] [(.ref b9)]))
    refine Runs.by (fun _ hr => XS.iconst X9.here hx rfl (hb hby at_39) hr) ?_
    show Runs p e below _ (T9.setTop (mkF m 40 #[.val (.int p0), .val (.long q1), .second, .val (.long q2), .second, .val (.long q3), .second, .val (.long q4), .second, .val (.int (2 : Int32)), .val (.double (FP.l2d q1)), .second, .val (.double (FP.l2d q2)), .second, .val (.double (FP.l2d q3)), .second, .val (.double (FP.l2d q4)), .second, .val (.ref b9), .unset, .unset, .unset, .unset] [(.int (0 : Int32)), (.ref b9)]))
    refine Runs.by (fun _ hr => XS.dload X9.here hx rfl (hb hby at_40) rfl  hr) ?_
    show Runs p e below _ (T9.setTop (mkF m 42 #[.val (.int p0), .val (.long q1), .second, .val (.long q2), .second, .val (.long q3), .second, .val (.long q4), .second, .val (.int (2 : Int32)), .val (.double (FP.l2d q1)), .second, .val (.double (FP.l2d q2)), .second, .val (.double (FP.l2d q3)), .second, .val (.double (FP.l2d q4)), .second, .val (.ref b9), .unset, .unset, .unset, .unset] [(.double (FP.l2d q1)), (.int (0 : Int32)), (.ref b9)]))
    obtain ⟨cl11, Ar11, q11, S11, N11', H11, G11⟩ := id V9
    have hin11 : ¬ ((0 : Int32) < 0 ∨ cl11.slots.size ≤ ((0 : Int32)).toNatClampNeg) := inb_of S11 ⟨by decide, by decide⟩
    obtain ⟨T11, h11, X11, e11, W11, st11⟩ := stD X9 hx hZ e9 Ar11 (j := (0 : Int32)) hin11 (g := (mkF m 42 #[.val (.int p0), .val (.long q1), .second, .val (.long q2), .second, .val (.long q3), .second, .val (.long q4), .second, .val (.int (2 : Int32)), .val (.double (FP.l2d q1)), .second, .val (.double (FP.l2d q2)), .second, .val (.double (FP.l2d q3)), .second, .val (.double (FP.l2d q4)), .second, .val (.ref b9), .unset, .unset, .unset, .unset] [(.double (FP.l2d q1)), (.int (0 : Int32)), (.ref b9)])) rfl rfl (hb hby at_42)
    have V11 : Arv Z h11 b9 k9 .double (2 : Int32) [(.double (FP.l2d q1)), (.double (0 : UInt64))] (.double (0 : UInt64)) := Arv.set Ar11 q11 S11 N11' H11 G11 rfl W11 (0) rfl (Nat.le_of_ble_eq_true rfl)
    have K12 : Keep h0 h11 [] := K10.wr W11 (Or.inr sz_b9)
    have N11 := Fr.snoc X11 N0 g_b9
    refine Runs.by st11 ?_
    show Runs p e below _ (T11.setTop (mkF m 43 #[.val (.int p0), .val (.long q1), .second, .val (.long q2), .second, .val (.long q3), .second, .val (.long q4), .second, .val (.int (2 : Int32)), .val (.double (FP.l2d q1)), .second, .val (.double (FP.l2d q2)), .second, .val (.double (FP.l2d q3)), .second, .val (.double (FP.l2d q4)), .second, .val (.ref b9), .unset, .unset, .unset, .unset] []))
    refine Runs.by (fun _ hr => XS.iload X11.here hx rfl (hb hby at_43) rfl  hr) ?_
    show Runs p e below _ (T11.setTop (mkF m 45 #[.val (.int p0), .val (.long q1), .second, .val (.long q2), .second, .val (.long q3), .second, .val (.long q4), .second, .val (.int (2 : Int32)), .val (.double (FP.l2d q1)), .second, .val (.double (FP.l2d q2)), .second, .val (.double (FP.l2d q3)), .second, .val (.double (FP.l2d q4)), .second, .val (.ref b9), .unset, .unset, .unset, .unset] [(.int (2 : Int32))]))
    refine Runs.by (fun _ hr => XS.iconst X11.here hx rfl (hb hby at_45) hr) ?_
    show Runs p e below _ (T11.setTop (mkF m 46 #[.val (.int p0), .val (.long q1), .second, .val (.long q2), .second, .val (.long q3), .second, .val (.long q4), .second, .val (.int (2 : Int32)), .val (.double (FP.l2d q1)), .second, .val (.double (FP.l2d q2)), .second, .val (.double (FP.l2d q3)), .second, .val (.double (FP.l2d q4)), .second, .val (.ref b9), .unset, .unset, .unset, .unset] [(.int (1 : Int32)), (.int (2 : Int32))]))
    have hc46 : (1 : Int32) < (2 : Int32) := (by decide)
    refine Runs.by (fun _ hr => XS.icmpNo X11.here hx rfl (hb hby at_46) rfl (tlt hc46).2.2.2 hr) ?_
    show Runs p e below _ (T11.setTop (mkF m 49 #[.val (.int p0), .val (.long q1), .second, .val (.long q2), .second, .val (.long q3), .second, .val (.long q4), .second, .val (.int (2 : Int32)), .val (.double (FP.l2d q1)), .second, .val (.double (FP.l2d q2)), .second, .val (.double (FP.l2d q3)), .second, .val (.double (FP.l2d q4)), .second, .val (.ref b9), .unset, .unset, .unset, .unset] []))
    refine Runs.by (fun _ hr => XS.aload X11.here hx rfl (hb hby at_49) rfl rfl hr) ?_
    show Runs p e below _ (T11.setTop (mkF m 51 #[.val (.int p0), .val (.long q1), .second, .val (.long q2), .second, .val (.long q3), .second, .val (.long q4), .second, .val (.int (2 : Int32)), .val (.double (FP.l2d q1)), .second, .val (.double (FP.l2d q2)), .second, .val (.double (FP.l2d q3)), .second, .val (.double (FP.l2d q4)), .second, .val (.ref b9), .unset, .unset, .unset, .unset] [(.ref b9)]))
    refine Runs.by (fun _ hr => XS.iconst X11.here hx rfl (hb hby at_51) hr) ?_
    show Runs p e below _ (T11.setTop (mkF m 52 #[.val (.int p0), .val (.long q1), .second, .val (.long q2), .second, .val (.long q3), .second, .val (.long q4), .second, .val (.int (2 : Int32)), .val (.double (FP.l2d q1)), .second, .val (.double (FP.l2d q2)), .second, .val (.double (FP.l2d q3)), .second, .val (.double (FP.l2d q4)), .second, .val (.ref b9), .unset, .unset, .unset, .unset] [(.int (1 : Int32)), (.ref b9)]))
    refine Runs.by (fun _ hr => XS.dload X11.here hx rfl (hb hby at_52) rfl  hr) ?_
    show Runs p e below _ (T11.setTop (mkF m 54 #[.val (.int p0), .val (.long q1), .second, .val (.long q2), .second, .val (.long q3), .second, .val (.long q4), .second, .val (.int (2 : Int32)), .val (.double (FP.l2d q1)), .second, .val (.double (FP.l2d q2)), .second, .val (.double (FP.l2d q3)), .second, .val (.double (FP.l2d q4)), .second, .val (.ref b9), .unset, .unset, .unset, .unset] [(.double (FP.l2d q2)), (.int (1 : Int32)), (.ref b9)]))
    obtain ⟨cl13, Ar13, q13, S13, N13', H13, G13⟩ := id V11
    have hin13 : ¬ ((1 : Int32) < 0 ∨ cl13.slots.size ≤ ((1 : Int32)).toNatClampNeg) := inb_of S13 ⟨by decide, by decide⟩
    obtain ⟨T13, h13, X13, e13, W13, st13⟩ := stD X11 hx hZ e11 Ar13 (j := (1 : Int32)) hin13 (g := (mkF m 54 #[.val (.int p0), .val (.long q1), .second, .val (.long q2), .second, .val (.long q3), .second, .val (.long q4), .second, .val (.int (2 : Int32)), .val (.double (FP.l2d q1)), .second, .val (.double (FP.l2d q2)), .second, .val (.double (FP.l2d q3)), .second, .val (.double (FP.l2d q4)), .second, .val (.ref b9), .unset, .unset, .unset, .unset] [(.double (FP.l2d q2)), (.int (1 : Int32)), (.ref b9)])) rfl rfl (hb hby at_54)
    have V13 : Arv Z h13 b9 k9 .double (2 : Int32) [(.double (FP.l2d q1)), (.double (FP.l2d q2))] (.double (0 : UInt64)) := Arv.set Ar13 q13 S13 N13' H13 G13 rfl W13 (1) rfl (Nat.le_of_ble_eq_true rfl)
    have K14 : Keep h0 h13 [] := K12.wr W13 (Or.inr sz_b9)
    have N13 := Fr.snoc X13 N11 g_b9
    refine Runs.by st13 ?_
    show Runs p e below _ (T13.setTop (mkF m 55 #[.val (.int p0), .val (.long q1), .second, .val (.long q2), .second, .val (.long q3), .second, .val (.long q4), .second, .val (.int (2 : Int32)), .val (.double (FP.l2d q1)), .second, .val (.double (FP.l2d q2)), .second, .val (.double (FP.l2d q3)), .second, .val (.double (FP.l2d q4)), .second, .val (.ref b9), .unset, .unset, .unset, .unset] []))
    refine Runs.by (fun _ hr => XS.iload X13.here hx rfl (hb hby at_55) rfl  hr) ?_
    show Runs p e below _ (T13.setTop (mkF m 57 #[.val (.int p0), .val (.long q1), .second, .val (.long q2), .second, .val (.long q3), .second, .val (.long q4), .second, .val (.int (2 : Int32)), .val (.double (FP.l2d q1)), .second, .val (.double (FP.l2d q2)), .second, .val (.double (FP.l2d q3)), .second, .val (.double (FP.l2d q4)), .second, .val (.ref b9), .unset, .unset, .unset, .unset] [(.int (2 : Int32))]))
    refine Runs.by (fun _ hr => XS.iconst X13.here hx rfl (hb hby at_57) hr) ?_
    show Runs p e below _ (T13.setTop (mkF m 58 #[.val (.int p0), .val (.long q1), .second, .val (.long q2), .second, .val (.long q3), .second, .val (.long q4), .second, .val (.int (2 : Int32)), .val (.double (FP.l2d q1)), .second, .val (.double (FP.l2d q2)), .second, .val (.double (FP.l2d q3)), .second, .val (.double (FP.l2d q4)), .second, .val (.ref b9), .unset, .unset, .unset, .unset] [(.int (2 : Int32)), (.int (2 : Int32))]))
    have hc58 : ¬ ((2 : Int32) < (2 : Int32)) := (by decide)
    refine Runs.by (fun _ hr => XS.icmpYes X13.here hx rfl (pc0 := 58) (pc' := 67) rfl (hb hby at_58) rfl (flt hc58).2.2.2 (by decide) (by decide) hr) ?_
    show Runs p e below _ (T13.setTop (mkF m 67 #[.val (.int p0), .val (.long q1), .second, .val (.long q2), .second, .val (.long q3), .second, .val (.long q4), .second, .val (.int (2 : Int32)), .val (.double (FP.l2d q1)), .second, .val (.double (FP.l2d q2)), .second, .val (.double (FP.l2d q3)), .second, .val (.double (FP.l2d q4)), .second, .val (.ref b9), .unset, .unset, .unset, .unset] []))
    refine Runs.by (fun _ hr => XS.iload X13.here hx rfl (hb hby at_67) rfl  hr) ?_
    show Runs p e below _ (T13.setTop (mkF m 69 #[.val (.int p0), .val (.long q1), .second, .val (.long q2), .second, .val (.long q3), .second, .val (.long q4), .second, .val (.int (2 : Int32)), .val (.double (FP.l2d q1)), .second, .val (.double (FP.l2d q2)), .second, .val (.double (FP.l2d q3)), .second, .val (.double (FP.l2d q4)), .second, .val (.ref b9), .unset, .unset, .unset, .unset] [(.int (2 : Int32))]))
    refine Runs.by (fun _ hr => XS.iconst X13.here hx rfl (hb hby at_69) hr) ?_
    show Runs p e below _ (T13.setTop (mkF m 70 #[.val (.int p0), .val (.long q1), .second, .val (.long q2), .second, .val (.long q3), .second, .val (.long q4), .second, .val (.int (2 : Int32)), .val (.double (FP.l2d q1)), .second, .val (.double (FP.l2d q2)), .second, .val (.double (FP.l2d q3)), .second, .val (.double (FP.l2d q4)), .second, .val (.ref b9), .unset, .unset, .unset, .unset] [(.int (3 : Int32)), (.int (2 : Int32))]))
    have hc70 : ¬ ((3 : Int32) < (2 : Int32)) := (by decide)
    refine Runs.by (fun _ hr => XS.icmpYes X13.here hx rfl (pc0 := 70) (pc' := 79) rfl (hb hby at_70) rfl (flt hc70).2.2.2 (by decide) (by decide) hr) ?_
    show Runs p e below _ (T13.setTop (mkF m 79 #[.val (.int p0), .val (.long q1), .second, .val (.long q2), .second, .val (.long q3), .second, .val (.long q4), .second, .val (.int (2 : Int32)), .val (.double (FP.l2d q1)), .second, .val (.double (FP.l2d q2)), .second, .val (.double (FP.l2d q3)), .second, .val (.double (FP.l2d q4)), .second, .val (.ref b9), .unset, .unset, .unset, .unset] []))
    refine Runs.by (fun _ hr => XS.dconst0 X13.here hx rfl (hb hby at_79) rfl hr) ?_
    show Runs p e below _ (T13.setTop (mkF m 80 #[.val (.int p0), .val (.long q1), .second, .val (.long q2), .second, .val (.long q3), .second, .val (.long q4), .second, .val (.int (2 : Int32)), .val (.double (FP.l2d q1)), .second, .val (.double (FP.l2d q2)), .second, .val (.double (FP.l2d q3)), .second, .val (.double (FP.l2d q4)), .second, .val (.ref b9), .unset, .unset, .unset, .unset] [(.double FP.dconst0)]))
    refine Runs.by (fun _ hr => XS.dstore X13.here hx rfl (hb hby at_80) rfl (l' := #[.val (.int p0), .val (.long q1), .second, .val (.long q2), .second, .val (.long q3), .second, .val (.long q4), .second, .val (.int (2 : Int32)), .val (.double (FP.l2d q1)), .second, .val (.double (FP.l2d q2)), .second, .val (.double (FP.l2d q3)), .second, .val (.double (FP.l2d q4)), .second, .val (.ref b9), .val (.double FP.dconst0), .second, .unset, .unset]) rfl hr) ?_
    show Runs p e below _ (T13.setTop (mkF m 82 #[.val (.int p0), .val (.long q1), .second, .val (.long q2), .second, .val (.long q3), .second, .val (.long q4), .second, .val (.int (2 : Int32)), .val (.double (FP.l2d q1)), .second, .val (.double (FP.l2d q2)), .second, .val (.double (FP.l2d q3)), .second, .val (.double (FP.l2d q4)), .second, .val (.ref b9), .val (.double FP.dconst0), .second, .unset, .unset] []))
    refine Runs.by (fun _ hr => XS.iload X13.here hx rfl (hb hby at_82) rfl  hr) ?_
    show Runs p e below _ (T13.setTop (mkF m 84 #[.val (.int p0), .val (.long q1), .second, .val (.long q2), .second, .val (.long q3), .second, .val (.long q4), .second, .val (.int (2 : Int32)), .val (.double (FP.l2d q1)), .second, .val (.double (FP.l2d q2)), .second, .val (.double (FP.l2d q3)), .second, .val (.double (FP.l2d q4)), .second, .val (.ref b9), .val (.double FP.dconst0), .second, .unset, .unset] [(.int (2 : Int32))]))
    have hc84 : (0 : Int32) < (2 : Int32) := (by decide)
    refine Runs.by (fun _ hr => XS.ifNo X13.here hx rfl (hb hby at_84) rfl ((if0 _ _).trans (tlt hc84).2.2.2) hr) ?_
    show Runs p e below _ (T13.setTop (mkF m 87 #[.val (.int p0), .val (.long q1), .second, .val (.long q2), .second, .val (.long q3), .second, .val (.long q4), .second, .val (.int (2 : Int32)), .val (.double (FP.l2d q1)), .second, .val (.double (FP.l2d q2)), .second, .val (.double (FP.l2d q3)), .second, .val (.double (FP.l2d q4)), .second, .val (.ref b9), .val (.double FP.dconst0), .second, .unset, .unset] []))
    refine Runs.by (fun _ hr => XS.dload X13.here hx rfl (hb hby at_87) rfl  hr) ?_
    show Runs p e below _ (T13.setTop (mkF m 89 #[.val (.int p0), .val (.long q1), .second, .val (.long q2), .second, .val (.long q3), .second, .val (.long q4), .second, .val (.int (2 : Int32)), .val (.double (FP.l2d q1)), .second, .val (.double (FP.l2d q2)), .second, .val (.double (FP.l2d q3)), .second, .val (.double (FP.l2d q4)), .second, .val (.ref b9), .val (.double FP.dconst0), .second, .unset, .unset] [(.double FP.dconst0)]))
    refine Runs.by (fun _ hr => XS.dload X13.here hx rfl (hb hby at_89) rfl  hr) ?_
    show Runs p e below _ (T13.setTop (mkF m 91 #[.val (.int p0), .val (.long q1), .second, .val (.long q2), .second, .val (.long q3), .second, .val (.long q4), .second, .val (.int (2 : Int32)), .val (.double (FP.l2d q1)), .second, .val (.double (FP.l2d q2)), .second, .val (.double (FP.l2d q3)), .second, .val (.double (FP.l2d q4)), .second, .val (.ref b9), .val (.double FP.dconst0), .second, .unset, .unset] [(.double (FP.l2d q1)), (.double FP.dconst0)]))
    refine Runs.by (fun _ hr => XS.daddS X13.here hx rfl (hb hby at_91) rfl (Jvm.Free.Fl.dadd_out own_d0 (Jvm.Free.Fl.l2d_fin q1)) rfl hr) ?_
    show Runs p e below _ (T13.setTop (mkF m 92 #[.val (.int p0), .val (.long q1), .second, .val (.long q2), .second, .val (.long q3), .second, .val (.long q4), .second, .val (.int (2 : Int32)), .val (.double (FP.l2d q1)), .second, .val (.double (FP.l2d q2)), .second, .val (.double (FP.l2d q3)), .second, .val (.double (FP.l2d q4)), .second, .val (.ref b9), .val (.double FP.dconst0), .second, .unset, .unset] [(.double (FP.dadd FP.dconst0 (FP.l2d q1)))]))
    refine Runs.by (fun _ hr => XS.dstore X13.here hx rfl (hb hby at_92) rfl (l' := #[.val (.int p0), .val (.long q1), .second, .val (.long q2), .second, .val (.long q3), .second, .val (.long q4), .second, .val (.int (2 : Int32)), .val (.double (FP.l2d q1)), .second, .val (.double (FP.l2d q2)), .second, .val (.double (FP.l2d q3)), .second, .val (.double (FP.l2d q4)), .second, .val (.ref b9), .val (.double (FP.dadd FP.dconst0 (FP.l2d q1))), .second, .unset, .unset]) rfl hr) ?_
    show Runs p e below _ (T13.setTop (mkF m 94 #[.val (.int p0), .val (.long q1), .second, .val (.long q2), .second, .val (.long q3), .second, .val (.long q4), .second, .val (.int (2 : Int32)), .val (.double (FP.l2d q1)), .second, .val (.double (FP.l2d q2)), .second, .val (.double (FP.l2d q3)), .second, .val (.double (FP.l2d q4)), .second, .val (.ref b9), .val (.double (FP.dadd FP.dconst0 (FP.l2d q1))), .second, .unset, .unset] []))
    refine Runs.by (fun _ hr => XS.iload X13.here hx rfl (hb hby at_94) rfl  hr) ?_
    show Runs p e below _ (T13.setTop (mkF m 96 #[.val (.int p0), .val (.long q1), .second, .val (.long q2), .second, .val (.long q3), .second, .val (.long q4), .second, .val (.int (2 : Int32)), .val (.double (FP.l2d q1)), .second, .val (.double (FP.l2d q2)), .second, .val (.double (FP.l2d q3)), .second, .val (.double (FP.l2d q4)), .second, .val (.ref b9), .val (.double (FP.dadd FP.dconst0 (FP.l2d q1))), .second, .unset, .unset] [(.int (2 : Int32))]))
    refine Runs.by (fun _ hr => XS.iconst X13.here hx rfl (hb hby at_96) hr) ?_
    show Runs p e below _ (T13.setTop (mkF m 97 #[.val (.int p0), .val (.long q1), .second, .val (.long q2), .second, .val (.long q3), .second, .val (.long q4), .second, .val (.int (2 : Int32)), .val (.double (FP.l2d q1)), .second, .val (.double (FP.l2d q2)), .second, .val (.double (FP.l2d q3)), .second, .val (.double (FP.l2d q4)), .second, .val (.ref b9), .val (.double (FP.dadd FP.dconst0 (FP.l2d q1))), .second, .unset, .unset] [(.int (1 : Int32)), (.int (2 : Int32))]))
    have hc97 : (1 : Int32) < (2 : Int32) := (by decide)
    refine Runs.by (fun _ hr => XS.icmpNo X13.here hx rfl (hb hby at_97) rfl (tlt hc97).2.2.2 hr) ?_
    show Runs p e below _ (T13.setTop (mkF m 100 #[.val (.int p0), .val (.long q1), .second, .val (.long q2), .second, .val (.long q3), .second, .val (.long q4), .second, .val (.int (2 : Int32)), .val (.double (FP.l2d q1)), .second, .val (.double (FP.l2d q2)), .second, .val (.double (FP.l2d q3)), .second, .val (.double (FP.l2d q4)), .second, .val (.ref b9), .val (.double (FP.dadd FP.dconst0 (FP.l2d q1))), .second, .unset, .unset] []))
    refine Runs.by (fun _ hr => XS.dload X13.here hx rfl (hb hby at_100) rfl  hr) ?_
    show Runs p e below _ (T13.setTop (mkF m 102 #[.val (.int p0), .val (.long q1), .second, .val (.long q2), .second, .val (.long q3), .second, .val (.long q4), .second, .val (.int (2 : Int32)), .val (.double (FP.l2d q1)), .second, .val (.double (FP.l2d q2)), .second, .val (.double (FP.l2d q3)), .second, .val (.double (FP.l2d q4)), .second, .val (.ref b9), .val (.double (FP.dadd FP.dconst0 (FP.l2d q1))), .second, .unset, .unset] [(.double (FP.dadd FP.dconst0 (FP.l2d q1)))]))
    refine Runs.by (fun _ hr => XS.dload X13.here hx rfl (hb hby at_102) rfl  hr) ?_
    show Runs p e below _ (T13.setTop (mkF m 104 #[.val (.int p0), .val (.long q1), .second, .val (.long q2), .second, .val (.long q3), .second, .val (.long q4), .second, .val (.int (2 : Int32)), .val (.double (FP.l2d q1)), .second, .val (.double (FP.l2d q2)), .second, .val (.double (FP.l2d q3)), .second, .val (.double (FP.l2d q4)), .second, .val (.ref b9), .val (.double (FP.dadd FP.dconst0 (FP.l2d q1))), .second, .unset, .unset] [(.double (FP.l2d q2)), (.double (FP.dadd FP.dconst0 (FP.l2d q1)))]))
    refine Runs.by (fun _ hr => XS.daddS X13.here hx rfl (hb hby at_104) rfl (Jvm.Free.Fl.dadd_out (Jvm.Free.Fl.dadd_out own_d0 (Jvm.Free.Fl.l2d_fin q1)) (Jvm.Free.Fl.l2d_fin q2)) rfl hr) ?_
    show Runs p e below _ (T13.setTop (mkF m 105 #[.val (.int p0), .val (.long q1), .second, .val (.long q2), .second, .val (.long q3), .second, .val (.long q4), .second, .val (.int (2 : Int32)), .val (.double (FP.l2d q1)), .second, .val (.double (FP.l2d q2)), .second, .val (.double (FP.l2d q3)), .second, .val (.double (FP.l2d q4)), .second, .val (.ref b9), .val (.double (FP.dadd FP.dconst0 (FP.l2d q1))), .second, .unset, .unset] [(.double (FP.dadd (FP.dadd FP.dconst0 (FP.l2d q1)) (FP.l2d q2)))]))
    refine Runs.by (fun _ hr => XS.dstore X13.here hx rfl (hb hby at_105) rfl (l' := #[.val (.int p0), .val (.long q1), .second, .val (.long q2), .second, .val (.long q3), .second, .val (.long q4), .second, .val (.int (2 : Int32)), .val (.double (FP.l2d q1)), .second, .val (.double (FP.l2d q2)), .second, .val (.double (FP.l2d q3)), .second, .val (.double (FP.l2d q4)), .second, .val (.ref b9), .val (.double (FP.dadd (FP.dadd FP.dconst0 (FP.l2d q1)) (FP.l2d q2))), .second, .unset, .unset]) rfl hr) ?_
    show Runs p e below _ (T13.setTop (mkF m 107 #[.val (.int p0), .val (.long q1), .second, .val (.long q2), .second, .val (.long q3), .second, .val (.long q4), .second, .val (.int (2 : Int32)), .val (.double (FP.l2d q1)), .second, .val (.double (FP.l2d q2)), .second, .val (.double (FP.l2d q3)), .second, .val (.double (FP.l2d q4)), .second, .val (.ref b9), .val (.double (FP.dadd (FP.dadd FP.dconst0 (FP.l2d q1)) (FP.l2d q2))), .second, .unset, .unset] []))
    refine Runs.by (fun _ hr => XS.iload X13.here hx rfl (hb hby at_107) rfl  hr) ?_
    show Runs p e below _ (T13.setTop (mkF m 109 #[.val (.int p0), .val (.long q1), .second, .val (.long q2), .second, .val (.long q3), .second, .val (.long q4), .second, .val (.int (2 : Int32)), .val (.double (FP.l2d q1)), .second, .val (.double (FP.l2d q2)), .second, .val (.double (FP.l2d q3)), .second, .val (.double (FP.l2d q4)), .second, .val (.ref b9), .val (.double (FP.dadd (FP.dadd FP.dconst0 (FP.l2d q1)) (FP.l2d q2))), .second, .unset, .unset] [(.int (2 : Int32))]))
    refine Runs.by (fun _ hr => XS.iconst X13.here hx rfl (hb hby at_109) hr) ?_
    show Runs p e below _ (T13.setTop (mkF m 110 #[.val (.int p0), .val (.long q1), .second, .val (.long q2), .second, .val (.long q3), .second, .val (.long q4), .second, .val (.int (2 : Int32)), .val (.double (FP.l2d q1)), .second, .val (.double (FP.l2d q2)), .second, .val (.double (FP.l2d q3)), .second, .val (.double (FP.l2d q4)), .second, .val (.ref b9), .val (.double (FP.dadd (FP.dadd FP.dconst0 (FP.l2d q1)) (FP.l2d q2))), .second, .unset, .unset] [(.int (2 : Int32)), (.int (2 : Int32))]))
    have hc110 : ¬ ((2 : Int32) < (2 : Int32)) := (by decide)
    refine Runs.by (fun _ hr => XS.icmpYes X13.here hx rfl (pc0 := 110) (pc' := 120) rfl (hb hby at_110) rfl (flt hc110).2.2.2 (by decide) (by decide) hr) ?_
    show Runs p e below _ (T13.setTop (mkF m 120 #[.val (.int p0), .val (.long q1), .second, .val (.long q2), .second, .val (.long q3), .second, .val (.long q4), .second, .val (.int (2 : Int32)), .val (.double (FP.l2d q1)), .second, .val (.double (FP.l2d q2)), .second, .val (.double (FP.l2d q3)), .second, .val (.double (FP.l2d q4)), .second, .val (.ref b9), .val (.double (FP.dadd (FP.dadd FP.dconst0 (FP.l2d q1)) (FP.l2d q2))), .second, .unset, .unset] []))
    refine Runs.by (fun _ hr => XS.iload X13.here hx rfl (hb hby at_120) rfl  hr) ?_
    show Runs p e below _ (T13.setTop (mkF m 122 #[.val (.int p0), .val (.long q1), .second, .val (.long q2), .second, .val (.long q3), .second, .val (.long q4), .second, .val (.int (2 : Int32)), .val (.double (FP.l2d q1)), .second, .val (.double (FP.l2d q2)), .second, .val (.double (FP.l2d q3)), .second, .val (.double (FP.l2d q4)), .second, .val (.ref b9), .val (.double (FP.dadd (FP.dadd FP.dconst0 (FP.l2d q1)) (FP.l2d q2))), .second, .unset, .unset] [(.int (2 : Int32))]))
    refine Runs.by (fun _ hr => XS.iconst X13.here hx rfl (hb hby at_122) hr) ?_
    show Runs p e below _ (T13.setTop (mkF m 123 #[.val (.int p0), .val (.long q1), .second, .val (.long q2), .second, .val (.long q3), .second, .val (.long q4), .second, .val (.int (2 : Int32)), .val (.double (FP.l2d q1)), .second, .val (.double (FP.l2d q2)), .second, .val (.double (FP.l2d q3)), .second, .val (.double (FP.l2d q4)), .second, .val (.ref b9), .val (.double (FP.dadd (FP.dadd FP.dconst0 (FP.l2d q1)) (FP.l2d q2))), .second, .unset, .unset] [(.int (3 : Int32)), (.int (2 : Int32))]))
    have hc123 : ¬ ((3 : Int32) < (2 : Int32)) := (by decide)
    refine Runs.by (fun _ hr => XS.icmpYes X13.here hx rfl (pc0 := 123) (pc' := 133) rfl (hb hby at_123) rfl (flt hc123).2.2.2 (by decide) (by decide) hr) ?_
    show Runs p e below _ (T13.setTop (mkF m 133 #[.val (.int p0), .val (.long q1), .second, .val (.long q2), .second, .val (.long q3), .second, .val (.long q4), .second, .val (.int (2 : Int32)), .val (.double (FP.l2d q1)), .second, .val (.double (FP.l2d q2)), .second, .val (.double (FP.l2d q3)), .second, .val (.double (FP.l2d q4)), .second, .val (.ref b9), .val (.double (FP.dadd (FP.dadd FP.dconst0 (FP.l2d q1)) (FP.l2d q2))), .second, .unset, .unset] []))
    refine Runs.by (fun _ hr => XS.aload X13.here hx rfl (hb hby at_133) rfl rfl hr) ?_
    show Runs p e below _ (T13.setTop (mkF m 135 #[.val (.int p0), .val (.long q1), .second, .val (.long q2), .second, .val (.long q3), .second, .val (.long q4), .second, .val (.int (2 : Int32)), .val (.double (FP.l2d q1)), .second, .val (.double (FP.l2d q2)), .second, .val (.double (FP.l2d q3)), .second, .val (.double (FP.l2d q4)), .second, .val (.ref b9), .val (.double (FP.dadd (FP.dadd FP.dconst0 (FP.l2d q1)) (FP.l2d q2))), .second, .unset, .unset] [(.ref b9)]))
    obtain ⟨_, _, ⟨T15, L15, k15, n15⟩, -, X15, ⟨Lc15, hQ15, l15, y15, z15⟩, st15⟩ := Jvm.LawKit.callS X13 hx (y := (⟨"com/example/threshold/threshold/engine/Bm25", "sum", "([D)D"⟩ : MethodName)) hown (mvT hZ (hw _ (List.mem_of_getElem? (i := 2) rfl))) (mvT hZ (hw _ (List.mem_of_getElem? (i := 3) rfl))) (mvT hZ (hw _ (List.mem_of_getElem? (i := 4) rfl))) (mvT hZ (hw _ (List.mem_of_getElem? (i := 5) rfl))) (by decide) (backOf (W := 0) (rm1_2 l Z a0 hw [] b9 k9 (FP.l2d q1) (FP.l2d q2) h13 n0 (Nat.le_trans Z0 K14.1) V13 (Jvm.Free.Fl.l2d_fin q1) (Jvm.Free.Fl.l2d_fin q2)) hZ (hw _ (List.mem_of_getElem? (i := 5) rfl)) (hw _ (List.mem_of_getElem? (i := 4) rfl)) (by decide) (by decide)) (g := (mkF m 135 #[.val (.int p0), .val (.long q1), .second, .val (.long q2), .second, .val (.long q3), .second, .val (.long q4), .second, .val (.int (2 : Int32)), .val (.double (FP.l2d q1)), .second, .val (.double (FP.l2d q2)), .second, .val (.double (FP.l2d q3)), .second, .val (.double (FP.l2d q4)), .second, .val (.ref b9), .val (.double (FP.dadd (FP.dadd FP.dconst0 (FP.l2d q1)) (FP.l2d q2))), .second, .unset, .unset] [(.ref b9)])) rfl (by rw [hml]; rfl) (argsL := [(.ref b9)]) (rest := []) (lenOf pd_0 rfl) rfl (by show 2 * 0 + _ ≤ _; exact Nat.le_of_eq rfl) (hb hby at_135) (fun _ _ => ⟨rfl, e13, (by decide : 1 + 0 ≤ _), (by decide : 2 + 0 ≤ _)⟩)
    dsimp only [Pt.U, Pt.locs, Pt.cells, Pt.slots] at X15 l15 y15 z15 st15 hQ15
    subst l15 y15 z15
    obtain ⟨rfl, Nq15, eq15⟩ := hQ15
    have N15 := Fr.app N13 Nq15
    refine Runs.by (fun t hr => st15 t hr) ?_
    show Runs p e below _ (T15.setTop (mkF m 138 #[.val (.int p0), .val (.long q1), .second, .val (.long q2), .second, .val (.long q3), .second, .val (.long q4), .second, .val (.int (2 : Int32)), .val (.double (FP.l2d q1)), .second, .val (.double (FP.l2d q2)), .second, .val (.double (FP.l2d q3)), .second, .val (.double (FP.l2d q4)), .second, .val (.ref b9), .val (.double (FP.dadd (FP.dadd FP.dconst0 (FP.l2d q1)) (FP.l2d q2))), .second, .unset, .unset] [(.double (FP.dadd (FP.dadd FP.dconst0 (FP.l2d q1)) (FP.l2d q2)))]))
    refine Runs.by (fun _ hr => XS.dstore X15.here hx rfl (hb hby at_138) rfl (l' := #[.val (.int p0), .val (.long q1), .second, .val (.long q2), .second, .val (.long q3), .second, .val (.long q4), .second, .val (.int (2 : Int32)), .val (.double (FP.l2d q1)), .second, .val (.double (FP.l2d q2)), .second, .val (.double (FP.l2d q3)), .second, .val (.double (FP.l2d q4)), .second, .val (.ref b9), .val (.double (FP.dadd (FP.dadd FP.dconst0 (FP.l2d q1)) (FP.l2d q2))), .second, .val (.double (FP.dadd (FP.dadd FP.dconst0 (FP.l2d q1)) (FP.l2d q2))), .second]) rfl hr) ?_
    show Runs p e below _ (T15.setTop (mkF m 140 #[.val (.int p0), .val (.long q1), .second, .val (.long q2), .second, .val (.long q3), .second, .val (.long q4), .second, .val (.int (2 : Int32)), .val (.double (FP.l2d q1)), .second, .val (.double (FP.l2d q2)), .second, .val (.double (FP.l2d q3)), .second, .val (.double (FP.l2d q4)), .second, .val (.ref b9), .val (.double (FP.dadd (FP.dadd FP.dconst0 (FP.l2d q1)) (FP.l2d q2))), .second, .val (.double (FP.dadd (FP.dadd FP.dconst0 (FP.l2d q1)) (FP.l2d q2))), .second] []))
    refine Runs.by (fun _ hr => XS.dload X15.here hx rfl (hb hby at_140) rfl  hr) ?_
    show Runs p e below _ (T15.setTop (mkF m 142 #[.val (.int p0), .val (.long q1), .second, .val (.long q2), .second, .val (.long q3), .second, .val (.long q4), .second, .val (.int (2 : Int32)), .val (.double (FP.l2d q1)), .second, .val (.double (FP.l2d q2)), .second, .val (.double (FP.l2d q3)), .second, .val (.double (FP.l2d q4)), .second, .val (.ref b9), .val (.double (FP.dadd (FP.dadd FP.dconst0 (FP.l2d q1)) (FP.l2d q2))), .second, .val (.double (FP.dadd (FP.dadd FP.dconst0 (FP.l2d q1)) (FP.l2d q2))), .second] [(.double (FP.dadd (FP.dadd FP.dconst0 (FP.l2d q1)) (FP.l2d q2)))]))
    refine Runs.by (fun _ hr => XS.dload X15.here hx rfl (hb hby at_142) rfl  hr) ?_
    show Runs p e below _ (T15.setTop (mkF m 144 #[.val (.int p0), .val (.long q1), .second, .val (.long q2), .second, .val (.long q3), .second, .val (.long q4), .second, .val (.int (2 : Int32)), .val (.double (FP.l2d q1)), .second, .val (.double (FP.l2d q2)), .second, .val (.double (FP.l2d q3)), .second, .val (.double (FP.l2d q4)), .second, .val (.ref b9), .val (.double (FP.dadd (FP.dadd FP.dconst0 (FP.l2d q1)) (FP.l2d q2))), .second, .val (.double (FP.dadd (FP.dadd FP.dconst0 (FP.l2d q1)) (FP.l2d q2))), .second] [(.double (FP.dadd (FP.dadd FP.dconst0 (FP.l2d q1)) (FP.l2d q2))), (.double (FP.dadd (FP.dadd FP.dconst0 (FP.l2d q1)) (FP.l2d q2)))]))
    refine Runs.by (fun _ hr => XS.dcmpS X15.here hx rfl (hb hby at_144) rfl (dcmpV_self (Jvm.Free.Fl.dadd_out (Jvm.Free.Fl.dadd_out own_d0 (Jvm.Free.Fl.l2d_fin q1)) (Jvm.Free.Fl.l2d_fin q2)) _) hr) ?_
    show Runs p e below _ (T15.setTop (mkF m 145 #[.val (.int p0), .val (.long q1), .second, .val (.long q2), .second, .val (.long q3), .second, .val (.long q4), .second, .val (.int (2 : Int32)), .val (.double (FP.l2d q1)), .second, .val (.double (FP.l2d q2)), .second, .val (.double (FP.l2d q3)), .second, .val (.double (FP.l2d q4)), .second, .val (.ref b9), .val (.double (FP.dadd (FP.dadd FP.dconst0 (FP.l2d q1)) (FP.l2d q2))), .second, .val (.double (FP.dadd (FP.dadd FP.dconst0 (FP.l2d q1)) (FP.l2d q2))), .second] [(.int (0 : Int32))]))
    have hc145 : (0 : Int32) = (0 : Int32) := (by decide)
    refine Runs.by (fun _ hr => XS.ifNo X15.here hx rfl (hb hby at_145) rfl ((if0 _ _).trans (teq hc145).2) hr) ?_
    show Runs p e below _ (T15.setTop (mkF m 148 #[.val (.int p0), .val (.long q1), .second, .val (.long q2), .second, .val (.long q3), .second, .val (.long q4), .second, .val (.int (2 : Int32)), .val (.double (FP.l2d q1)), .second, .val (.double (FP.l2d q2)), .second, .val (.double (FP.l2d q3)), .second, .val (.double (FP.l2d q4)), .second, .val (.ref b9), .val (.double (FP.dadd (FP.dadd FP.dconst0 (FP.l2d q1)) (FP.l2d q2))), .second, .val (.double (FP.dadd (FP.dadd FP.dconst0 (FP.l2d q1)) (FP.l2d q2))), .second] []))
    refine Runs.by (fun _ hr => XS.iconst X15.here hx rfl (hb hby at_148) hr) ?_
    show Runs p e below _ (T15.setTop (mkF m 149 #[.val (.int p0), .val (.long q1), .second, .val (.long q2), .second, .val (.long q3), .second, .val (.long q4), .second, .val (.int (2 : Int32)), .val (.double (FP.l2d q1)), .second, .val (.double (FP.l2d q2)), .second, .val (.double (FP.l2d q3)), .second, .val (.double (FP.l2d q4)), .second, .val (.ref b9), .val (.double (FP.dadd (FP.dadd FP.dconst0 (FP.l2d q1)) (FP.l2d q2))), .second, .val (.double (FP.dadd (FP.dadd FP.dconst0 (FP.l2d q1)) (FP.l2d q2))), .second] [(.int (1 : Int32))]))
    refine Runs.by (fun _ hr => XS.goto X15.here hx rfl (pc0 := 149) (pc' := 153) rfl (hb hby at_149) (by decide) (by decide) hr) ?_
    show Runs p e below _ (T15.setTop (mkF m 153 #[.val (.int p0), .val (.long q1), .second, .val (.long q2), .second, .val (.long q3), .second, .val (.long q4), .second, .val (.int (2 : Int32)), .val (.double (FP.l2d q1)), .second, .val (.double (FP.l2d q2)), .second, .val (.double (FP.l2d q3)), .second, .val (.double (FP.l2d q4)), .second, .val (.ref b9), .val (.double (FP.dadd (FP.dadd FP.dconst0 (FP.l2d q1)) (FP.l2d q2))), .second, .val (.double (FP.dadd (FP.dadd FP.dconst0 (FP.l2d q1)) (FP.l2d q2))), .second] [(.int (1 : Int32))]))
    refine Runs.ret X15 hx hrt hlk (Or.inl ⟨rfl, by simp, _, rfl⟩) (by rfl) (hb hby at_153) (by decide) (by decide) ?_
    rw [eq15]
    exact ⟨rfl, N15⟩
  · skip
    show Runs p e below _ (s₁.setTop (mkF m 8 #[.val (.int p0), .val (.long q1), .second, .val (.long q2), .second, .val (.long q3), .second, .val (.long q4), .second, .val (.int (3 : Int32)), .unset, .unset, .unset, .unset, .unset, .unset, .unset, .unset, .unset, .unset, .unset, .unset, .unset] []))
    refine Runs.by (fun _ hr => XS.lloadN X0.here hx rfl (hb hby at_8) rfl  hr) ?_
    show Runs p e below _ (s₁.setTop (mkF m 9 #[.val (.int p0), .val (.long q1), .second, .val (.long q2), .second, .val (.long q3), .second, .val (.long q4), .second, .val (.int (3 : Int32)), .unset, .unset, .unset, .unset, .unset, .unset, .unset, .unset, .unset, .unset, .unset, .unset, .unset] [(.long q1)]))
    refine Runs.by (fun _ hr => XS.l2dS X0.here hx rfl (hb hby at_9) rfl rfl hr) ?_
    show Runs p e below _ (s₁.setTop (mkF m 10 #[.val (.int p0), .val (.long q1), .second, .val (.long q2), .second, .val (.long q3), .second, .val (.long q4), .second, .val (.int (3 : Int32)), .unset, .unset, .unset, .unset, .unset, .unset, .unset, .unset, .unset, .unset, .unset, .unset, .unset] [(.double (FP.l2d q1))]))
    refine Runs.by (fun _ hr => XS.dstore X0.here hx rfl (hb hby at_10) rfl (l' := #[.val (.int p0), .val (.long q1), .second, .val (.long q2), .second, .val (.long q3), .second, .val (.long q4), .second, .val (.int (3 : Int32)), .val (.double (FP.l2d q1)), .second, .unset, .unset, .unset, .unset, .unset, .unset, .unset, .unset, .unset, .unset, .unset]) rfl hr) ?_
    show Runs p e below _ (s₁.setTop (mkF m 12 #[.val (.int p0), .val (.long q1), .second, .val (.long q2), .second, .val (.long q3), .second, .val (.long q4), .second, .val (.int (3 : Int32)), .val (.double (FP.l2d q1)), .second, .unset, .unset, .unset, .unset, .unset, .unset, .unset, .unset, .unset, .unset, .unset] []))
    refine Runs.by (fun _ hr => XS.lloadN X0.here hx rfl (hb hby at_12) rfl  hr) ?_
    show Runs p e below _ (s₁.setTop (mkF m 13 #[.val (.int p0), .val (.long q1), .second, .val (.long q2), .second, .val (.long q3), .second, .val (.long q4), .second, .val (.int (3 : Int32)), .val (.double (FP.l2d q1)), .second, .unset, .unset, .unset, .unset, .unset, .unset, .unset, .unset, .unset, .unset, .unset] [(.long q2)]))
    refine Runs.by (fun _ hr => XS.l2dS X0.here hx rfl (hb hby at_13) rfl rfl hr) ?_
    show Runs p e below _ (s₁.setTop (mkF m 14 #[.val (.int p0), .val (.long q1), .second, .val (.long q2), .second, .val (.long q3), .second, .val (.long q4), .second, .val (.int (3 : Int32)), .val (.double (FP.l2d q1)), .second, .unset, .unset, .unset, .unset, .unset, .unset, .unset, .unset, .unset, .unset, .unset] [(.double (FP.l2d q2))]))
    refine Runs.by (fun _ hr => XS.dstore X0.here hx rfl (hb hby at_14) rfl (l' := #[.val (.int p0), .val (.long q1), .second, .val (.long q2), .second, .val (.long q3), .second, .val (.long q4), .second, .val (.int (3 : Int32)), .val (.double (FP.l2d q1)), .second, .val (.double (FP.l2d q2)), .second, .unset, .unset, .unset, .unset, .unset, .unset, .unset, .unset, .unset]) rfl hr) ?_
    show Runs p e below _ (s₁.setTop (mkF m 16 #[.val (.int p0), .val (.long q1), .second, .val (.long q2), .second, .val (.long q3), .second, .val (.long q4), .second, .val (.int (3 : Int32)), .val (.double (FP.l2d q1)), .second, .val (.double (FP.l2d q2)), .second, .unset, .unset, .unset, .unset, .unset, .unset, .unset, .unset, .unset] []))
    refine Runs.by (fun _ hr => XS.lload X0.here hx rfl (hb hby at_16) rfl  hr) ?_
    show Runs p e below _ (s₁.setTop (mkF m 18 #[.val (.int p0), .val (.long q1), .second, .val (.long q2), .second, .val (.long q3), .second, .val (.long q4), .second, .val (.int (3 : Int32)), .val (.double (FP.l2d q1)), .second, .val (.double (FP.l2d q2)), .second, .unset, .unset, .unset, .unset, .unset, .unset, .unset, .unset, .unset] [(.long q3)]))
    refine Runs.by (fun _ hr => XS.l2dS X0.here hx rfl (hb hby at_18) rfl rfl hr) ?_
    show Runs p e below _ (s₁.setTop (mkF m 19 #[.val (.int p0), .val (.long q1), .second, .val (.long q2), .second, .val (.long q3), .second, .val (.long q4), .second, .val (.int (3 : Int32)), .val (.double (FP.l2d q1)), .second, .val (.double (FP.l2d q2)), .second, .unset, .unset, .unset, .unset, .unset, .unset, .unset, .unset, .unset] [(.double (FP.l2d q3))]))
    refine Runs.by (fun _ hr => XS.dstore X0.here hx rfl (hb hby at_19) rfl (l' := #[.val (.int p0), .val (.long q1), .second, .val (.long q2), .second, .val (.long q3), .second, .val (.long q4), .second, .val (.int (3 : Int32)), .val (.double (FP.l2d q1)), .second, .val (.double (FP.l2d q2)), .second, .val (.double (FP.l2d q3)), .second, .unset, .unset, .unset, .unset, .unset, .unset, .unset]) rfl hr) ?_
    show Runs p e below _ (s₁.setTop (mkF m 21 #[.val (.int p0), .val (.long q1), .second, .val (.long q2), .second, .val (.long q3), .second, .val (.long q4), .second, .val (.int (3 : Int32)), .val (.double (FP.l2d q1)), .second, .val (.double (FP.l2d q2)), .second, .val (.double (FP.l2d q3)), .second, .unset, .unset, .unset, .unset, .unset, .unset, .unset] []))
    refine Runs.by (fun _ hr => XS.lload X0.here hx rfl (hb hby at_21) rfl  hr) ?_
    show Runs p e below _ (s₁.setTop (mkF m 23 #[.val (.int p0), .val (.long q1), .second, .val (.long q2), .second, .val (.long q3), .second, .val (.long q4), .second, .val (.int (3 : Int32)), .val (.double (FP.l2d q1)), .second, .val (.double (FP.l2d q2)), .second, .val (.double (FP.l2d q3)), .second, .unset, .unset, .unset, .unset, .unset, .unset, .unset] [(.long q4)]))
    refine Runs.by (fun _ hr => XS.l2dS X0.here hx rfl (hb hby at_23) rfl rfl hr) ?_
    show Runs p e below _ (s₁.setTop (mkF m 24 #[.val (.int p0), .val (.long q1), .second, .val (.long q2), .second, .val (.long q3), .second, .val (.long q4), .second, .val (.int (3 : Int32)), .val (.double (FP.l2d q1)), .second, .val (.double (FP.l2d q2)), .second, .val (.double (FP.l2d q3)), .second, .unset, .unset, .unset, .unset, .unset, .unset, .unset] [(.double (FP.l2d q4))]))
    refine Runs.by (fun _ hr => XS.dstore X0.here hx rfl (hb hby at_24) rfl (l' := #[.val (.int p0), .val (.long q1), .second, .val (.long q2), .second, .val (.long q3), .second, .val (.long q4), .second, .val (.int (3 : Int32)), .val (.double (FP.l2d q1)), .second, .val (.double (FP.l2d q2)), .second, .val (.double (FP.l2d q3)), .second, .val (.double (FP.l2d q4)), .second, .unset, .unset, .unset, .unset, .unset]) rfl hr) ?_
    show Runs p e below _ (s₁.setTop (mkF m 26 #[.val (.int p0), .val (.long q1), .second, .val (.long q2), .second, .val (.long q3), .second, .val (.long q4), .second, .val (.int (3 : Int32)), .val (.double (FP.l2d q1)), .second, .val (.double (FP.l2d q2)), .second, .val (.double (FP.l2d q3)), .second, .val (.double (FP.l2d q4)), .second, .unset, .unset, .unset, .unset, .unset] []))
    refine Runs.by (fun _ hr => XS.iload X0.here hx rfl (hb hby at_26) rfl  hr) ?_
    show Runs p e below _ (s₁.setTop (mkF m 28 #[.val (.int p0), .val (.long q1), .second, .val (.long q2), .second, .val (.long q3), .second, .val (.long q4), .second, .val (.int (3 : Int32)), .val (.double (FP.l2d q1)), .second, .val (.double (FP.l2d q2)), .second, .val (.double (FP.l2d q3)), .second, .val (.double (FP.l2d q4)), .second, .unset, .unset, .unset, .unset, .unset] [(.int (3 : Int32))]))
    obtain ⟨T16, h16, k16, X16, e16, E16, A16, st16⟩ := newP X0 hx hZ (hw _ (List.mem_of_getElem? (i := 1) rfl)) e0 (g := (mkF m 28 #[.val (.int p0), .val (.long q1), .second, .val (.long q2), .second, .val (.long q3), .second, .val (.long q4), .second, .val (.int (3 : Int32)), .val (.double (FP.l2d q1)), .second, .val (.double (FP.l2d q2)), .second, .val (.double (FP.l2d q3)), .second, .val (.double (FP.l2d q4)), .second, .unset, .unset, .unset, .unset, .unset] [(.int (3 : Int32))])) rfl (hb hby at_28) rfl (by decide) (cap := 3) (by decide) (by decide) (by decide) (by decide)
    obtain ⟨b16, gz16⟩ : ∃ z, z = h0.size := ⟨_, rfl⟩
    rw [← gz16] at A16 st16
    have g_b16 : n0 ≤ b16 := Nat.le_trans (Nat.le_trans Z0 K0.1) (Nat.le_of_eq gz16.symm)
    have sz_b16 : h0.size ≤ b16 := Nat.le_trans K0.1 (Nat.le_of_eq gz16.symm)
    have K17 : Keep h0 h16 [] := K0.ext E16
    have V16 : Arv Z h16 b16 k16 .double (3 : Int32) [(.double (0 : UInt64)), (.double (0 : UInt64)), (.double (0 : UInt64))] (.double (0 : UInt64)) := (Arv.new A16 (by decide)).pad (pad_rep [] (.double (0 : UInt64)) 3)
    refine Runs.by st16 ?_
    show Runs p e below _ (T16.setTop (mkF m 30 #[.val (.int p0), .val (.long q1), .second, .val (.long q2), .second, .val (.long q3), .second, .val (.long q4), .second, .val (.int (3 : Int32)), .val (.double (FP.l2d q1)), .second, .val (.double (FP.l2d q2)), .second, .val (.double (FP.l2d q3)), .second, .val (.double (FP.l2d q4)), .second, .unset, .unset, .unset, .unset, .unset] [(.ref b16)]))
    refine Runs.by (fun _ hr => XS.astore X16.here hx rfl (hb hby at_30) rfl rfl (l' := #[.val (.int p0), .val (.long q1), .second, .val (.long q2), .second, .val (.long q3), .second, .val (.long q4), .second, .val (.int (3 : Int32)), .val (.double (FP.l2d q1)), .second, .val (.double (FP.l2d q2)), .second, .val (.double (FP.l2d q3)), .second, .val (.double (FP.l2d q4)), .second, .val (.ref b16), .unset, .unset, .unset, .unset]) rfl hr) ?_
    show Runs p e below _ (T16.setTop (mkF m 32 #[.val (.int p0), .val (.long q1), .second, .val (.long q2), .second, .val (.long q3), .second, .val (.long q4), .second, .val (.int (3 : Int32)), .val (.double (FP.l2d q1)), .second, .val (.double (FP.l2d q2)), .second, .val (.double (FP.l2d q3)), .second, .val (.double (FP.l2d q4)), .second, .val (.ref b16), .unset, .unset, .unset, .unset] []))
    refine Runs.by (fun _ hr => XS.iload X16.here hx rfl (hb hby at_32) rfl  hr) ?_
    show Runs p e below _ (T16.setTop (mkF m 34 #[.val (.int p0), .val (.long q1), .second, .val (.long q2), .second, .val (.long q3), .second, .val (.long q4), .second, .val (.int (3 : Int32)), .val (.double (FP.l2d q1)), .second, .val (.double (FP.l2d q2)), .second, .val (.double (FP.l2d q3)), .second, .val (.double (FP.l2d q4)), .second, .val (.ref b16), .unset, .unset, .unset, .unset] [(.int (3 : Int32))]))
    have hc34 : (0 : Int32) < (3 : Int32) := (by decide)
    refine Runs.by (fun _ hr => XS.ifNo X16.here hx rfl (hb hby at_34) rfl ((if0 _ _).trans (tlt hc34).2.2.2) hr) ?_
    show Runs p e below _ (T16.setTop (mkF m 37 #[.val (.int p0), .val (.long q1), .second, .val (.long q2), .second, .val (.long q3), .second, .val (.long q4), .second, .val (.int (3 : Int32)), .val (.double (FP.l2d q1)), .second, .val (.double (FP.l2d q2)), .second, .val (.double (FP.l2d q3)), .second, .val (.double (FP.l2d q4)), .second, .val (.ref b16), .unset, .unset, .unset, .unset] []))
    refine Runs.by (fun _ hr => XS.aload X16.here hx rfl (hb hby at_37) rfl rfl hr) ?_
    show Runs p e below _ (T16.setTop (mkF m 39 #[.val (.int p0), .val (.long q1), .second, .val (.long q2), .second, .val (.long q3), .second, .val (.long q4), .second, .val (.int (3 : Int32)), .val (.double (FP.l2d q1)), .second, .val (.double (FP.l2d q2)), .second, .val (.double (FP.l2d q3)), .second, .val (.double (FP.l2d q4)), .second, .val (.ref b16), .unset, .unset, .unset, .unset] [(.ref b16)]))
    refine Runs.by (fun _ hr => XS.iconst X16.here hx rfl (hb hby at_39) hr) ?_
    show Runs p e below _ (T16.setTop (mkF m 40 #[.val (.int p0), .val (.long q1), .second, .val (.long q2), .second, .val (.long q3), .second, .val (.long q4), .second, .val (.int (3 : Int32)), .val (.double (FP.l2d q1)), .second, .val (.double (FP.l2d q2)), .second, .val (.double (FP.l2d q3)), .second, .val (.double (FP.l2d q4)), .second, .val (.ref b16), .unset, .unset, .unset, .unset] [(.int (0 : Int32)), (.ref b16)]))
    refine Runs.by (fun _ hr => XS.dload X16.here hx rfl (hb hby at_40) rfl  hr) ?_
    show Runs p e below _ (T16.setTop (mkF m 42 #[.val (.int p0), .val (.long q1), .second, .val (.long q2), .second, .val (.long q3), .second, .val (.long q4), .second, .val (.int (3 : Int32)), .val (.double (FP.l2d q1)), .second, .val (.double (FP.l2d q2)), .second, .val (.double (FP.l2d q3)), .second, .val (.double (FP.l2d q4)), .second, .val (.ref b16), .unset, .unset, .unset, .unset] [(.double (FP.l2d q1)), (.int (0 : Int32)), (.ref b16)]))
    obtain ⟨cl18, Ar18, q18, S18, N18', H18, G18⟩ := id V16
    have hin18 : ¬ ((0 : Int32) < 0 ∨ cl18.slots.size ≤ ((0 : Int32)).toNatClampNeg) := inb_of S18 ⟨by decide, by decide⟩
    obtain ⟨T18, h18, X18, e18, W18, st18⟩ := stD X16 hx hZ e16 Ar18 (j := (0 : Int32)) hin18 (g := (mkF m 42 #[.val (.int p0), .val (.long q1), .second, .val (.long q2), .second, .val (.long q3), .second, .val (.long q4), .second, .val (.int (3 : Int32)), .val (.double (FP.l2d q1)), .second, .val (.double (FP.l2d q2)), .second, .val (.double (FP.l2d q3)), .second, .val (.double (FP.l2d q4)), .second, .val (.ref b16), .unset, .unset, .unset, .unset] [(.double (FP.l2d q1)), (.int (0 : Int32)), (.ref b16)])) rfl rfl (hb hby at_42)
    have V18 : Arv Z h18 b16 k16 .double (3 : Int32) [(.double (FP.l2d q1)), (.double (0 : UInt64)), (.double (0 : UInt64))] (.double (0 : UInt64)) := Arv.set Ar18 q18 S18 N18' H18 G18 rfl W18 (0) rfl (Nat.le_of_ble_eq_true rfl)
    have K19 : Keep h0 h18 [] := K17.wr W18 (Or.inr sz_b16)
    have N18 := Fr.snoc X18 N0 g_b16
    refine Runs.by st18 ?_
    show Runs p e below _ (T18.setTop (mkF m 43 #[.val (.int p0), .val (.long q1), .second, .val (.long q2), .second, .val (.long q3), .second, .val (.long q4), .second, .val (.int (3 : Int32)), .val (.double (FP.l2d q1)), .second, .val (.double (FP.l2d q2)), .second, .val (.double (FP.l2d q3)), .second, .val (.double (FP.l2d q4)), .second, .val (.ref b16), .unset, .unset, .unset, .unset] []))
    refine Runs.by (fun _ hr => XS.iload X18.here hx rfl (hb hby at_43) rfl  hr) ?_
    show Runs p e below _ (T18.setTop (mkF m 45 #[.val (.int p0), .val (.long q1), .second, .val (.long q2), .second, .val (.long q3), .second, .val (.long q4), .second, .val (.int (3 : Int32)), .val (.double (FP.l2d q1)), .second, .val (.double (FP.l2d q2)), .second, .val (.double (FP.l2d q3)), .second, .val (.double (FP.l2d q4)), .second, .val (.ref b16), .unset, .unset, .unset, .unset] [(.int (3 : Int32))]))
    refine Runs.by (fun _ hr => XS.iconst X18.here hx rfl (hb hby at_45) hr) ?_
    show Runs p e below _ (T18.setTop (mkF m 46 #[.val (.int p0), .val (.long q1), .second, .val (.long q2), .second, .val (.long q3), .second, .val (.long q4), .second, .val (.int (3 : Int32)), .val (.double (FP.l2d q1)), .second, .val (.double (FP.l2d q2)), .second, .val (.double (FP.l2d q3)), .second, .val (.double (FP.l2d q4)), .second, .val (.ref b16), .unset, .unset, .unset, .unset] [(.int (1 : Int32)), (.int (3 : Int32))]))
    have hc46 : (1 : Int32) < (3 : Int32) := (by decide)
    refine Runs.by (fun _ hr => XS.icmpNo X18.here hx rfl (hb hby at_46) rfl (tlt hc46).2.2.2 hr) ?_
    show Runs p e below _ (T18.setTop (mkF m 49 #[.val (.int p0), .val (.long q1), .second, .val (.long q2), .second, .val (.long q3), .second, .val (.long q4), .second, .val (.int (3 : Int32)), .val (.double (FP.l2d q1)), .second, .val (.double (FP.l2d q2)), .second, .val (.double (FP.l2d q3)), .second, .val (.double (FP.l2d q4)), .second, .val (.ref b16), .unset, .unset, .unset, .unset] []))
    refine Runs.by (fun _ hr => XS.aload X18.here hx rfl (hb hby at_49) rfl rfl hr) ?_
    show Runs p e below _ (T18.setTop (mkF m 51 #[.val (.int p0), .val (.long q1), .second, .val (.long q2), .second, .val (.long q3), .second, .val (.long q4), .second, .val (.int (3 : Int32)), .val (.double (FP.l2d q1)), .second, .val (.double (FP.l2d q2)), .second, .val (.double (FP.l2d q3)), .second, .val (.double (FP.l2d q4)), .second, .val (.ref b16), .unset, .unset, .unset, .unset] [(.ref b16)]))
    refine Runs.by (fun _ hr => XS.iconst X18.here hx rfl (hb hby at_51) hr) ?_
    show Runs p e below _ (T18.setTop (mkF m 52 #[.val (.int p0), .val (.long q1), .second, .val (.long q2), .second, .val (.long q3), .second, .val (.long q4), .second, .val (.int (3 : Int32)), .val (.double (FP.l2d q1)), .second, .val (.double (FP.l2d q2)), .second, .val (.double (FP.l2d q3)), .second, .val (.double (FP.l2d q4)), .second, .val (.ref b16), .unset, .unset, .unset, .unset] [(.int (1 : Int32)), (.ref b16)]))
    refine Runs.by (fun _ hr => XS.dload X18.here hx rfl (hb hby at_52) rfl  hr) ?_
    show Runs p e below _ (T18.setTop (mkF m 54 #[.val (.int p0), .val (.long q1), .second, .val (.long q2), .second, .val (.long q3), .second, .val (.long q4), .second, .val (.int (3 : Int32)), .val (.double (FP.l2d q1)), .second, .val (.double (FP.l2d q2)), .second, .val (.double (FP.l2d q3)), .second, .val (.double (FP.l2d q4)), .second, .val (.ref b16), .unset, .unset, .unset, .unset] [(.double (FP.l2d q2)), (.int (1 : Int32)), (.ref b16)]))
    obtain ⟨cl20, Ar20, q20, S20, N20', H20, G20⟩ := id V18
    have hin20 : ¬ ((1 : Int32) < 0 ∨ cl20.slots.size ≤ ((1 : Int32)).toNatClampNeg) := inb_of S20 ⟨by decide, by decide⟩
    obtain ⟨T20, h20, X20, e20, W20, st20⟩ := stD X18 hx hZ e18 Ar20 (j := (1 : Int32)) hin20 (g := (mkF m 54 #[.val (.int p0), .val (.long q1), .second, .val (.long q2), .second, .val (.long q3), .second, .val (.long q4), .second, .val (.int (3 : Int32)), .val (.double (FP.l2d q1)), .second, .val (.double (FP.l2d q2)), .second, .val (.double (FP.l2d q3)), .second, .val (.double (FP.l2d q4)), .second, .val (.ref b16), .unset, .unset, .unset, .unset] [(.double (FP.l2d q2)), (.int (1 : Int32)), (.ref b16)])) rfl rfl (hb hby at_54)
    have V20 : Arv Z h20 b16 k16 .double (3 : Int32) [(.double (FP.l2d q1)), (.double (FP.l2d q2)), (.double (0 : UInt64))] (.double (0 : UInt64)) := Arv.set Ar20 q20 S20 N20' H20 G20 rfl W20 (1) rfl (Nat.le_of_ble_eq_true rfl)
    have K21 : Keep h0 h20 [] := K19.wr W20 (Or.inr sz_b16)
    have N20 := Fr.snoc X20 N18 g_b16
    refine Runs.by st20 ?_
    show Runs p e below _ (T20.setTop (mkF m 55 #[.val (.int p0), .val (.long q1), .second, .val (.long q2), .second, .val (.long q3), .second, .val (.long q4), .second, .val (.int (3 : Int32)), .val (.double (FP.l2d q1)), .second, .val (.double (FP.l2d q2)), .second, .val (.double (FP.l2d q3)), .second, .val (.double (FP.l2d q4)), .second, .val (.ref b16), .unset, .unset, .unset, .unset] []))
    refine Runs.by (fun _ hr => XS.iload X20.here hx rfl (hb hby at_55) rfl  hr) ?_
    show Runs p e below _ (T20.setTop (mkF m 57 #[.val (.int p0), .val (.long q1), .second, .val (.long q2), .second, .val (.long q3), .second, .val (.long q4), .second, .val (.int (3 : Int32)), .val (.double (FP.l2d q1)), .second, .val (.double (FP.l2d q2)), .second, .val (.double (FP.l2d q3)), .second, .val (.double (FP.l2d q4)), .second, .val (.ref b16), .unset, .unset, .unset, .unset] [(.int (3 : Int32))]))
    refine Runs.by (fun _ hr => XS.iconst X20.here hx rfl (hb hby at_57) hr) ?_
    show Runs p e below _ (T20.setTop (mkF m 58 #[.val (.int p0), .val (.long q1), .second, .val (.long q2), .second, .val (.long q3), .second, .val (.long q4), .second, .val (.int (3 : Int32)), .val (.double (FP.l2d q1)), .second, .val (.double (FP.l2d q2)), .second, .val (.double (FP.l2d q3)), .second, .val (.double (FP.l2d q4)), .second, .val (.ref b16), .unset, .unset, .unset, .unset] [(.int (2 : Int32)), (.int (3 : Int32))]))
    have hc58 : (2 : Int32) < (3 : Int32) := (by decide)
    refine Runs.by (fun _ hr => XS.icmpNo X20.here hx rfl (hb hby at_58) rfl (tlt hc58).2.2.2 hr) ?_
    show Runs p e below _ (T20.setTop (mkF m 61 #[.val (.int p0), .val (.long q1), .second, .val (.long q2), .second, .val (.long q3), .second, .val (.long q4), .second, .val (.int (3 : Int32)), .val (.double (FP.l2d q1)), .second, .val (.double (FP.l2d q2)), .second, .val (.double (FP.l2d q3)), .second, .val (.double (FP.l2d q4)), .second, .val (.ref b16), .unset, .unset, .unset, .unset] []))
    refine Runs.by (fun _ hr => XS.aload X20.here hx rfl (hb hby at_61) rfl rfl hr) ?_
    show Runs p e below _ (T20.setTop (mkF m 63 #[.val (.int p0), .val (.long q1), .second, .val (.long q2), .second, .val (.long q3), .second, .val (.long q4), .second, .val (.int (3 : Int32)), .val (.double (FP.l2d q1)), .second, .val (.double (FP.l2d q2)), .second, .val (.double (FP.l2d q3)), .second, .val (.double (FP.l2d q4)), .second, .val (.ref b16), .unset, .unset, .unset, .unset] [(.ref b16)]))
    refine Runs.by (fun _ hr => XS.iconst X20.here hx rfl (hb hby at_63) hr) ?_
    show Runs p e below _ (T20.setTop (mkF m 64 #[.val (.int p0), .val (.long q1), .second, .val (.long q2), .second, .val (.long q3), .second, .val (.long q4), .second, .val (.int (3 : Int32)), .val (.double (FP.l2d q1)), .second, .val (.double (FP.l2d q2)), .second, .val (.double (FP.l2d q3)), .second, .val (.double (FP.l2d q4)), .second, .val (.ref b16), .unset, .unset, .unset, .unset] [(.int (2 : Int32)), (.ref b16)]))
    refine Runs.by (fun _ hr => XS.dload X20.here hx rfl (hb hby at_64) rfl  hr) ?_
    show Runs p e below _ (T20.setTop (mkF m 66 #[.val (.int p0), .val (.long q1), .second, .val (.long q2), .second, .val (.long q3), .second, .val (.long q4), .second, .val (.int (3 : Int32)), .val (.double (FP.l2d q1)), .second, .val (.double (FP.l2d q2)), .second, .val (.double (FP.l2d q3)), .second, .val (.double (FP.l2d q4)), .second, .val (.ref b16), .unset, .unset, .unset, .unset] [(.double (FP.l2d q3)), (.int (2 : Int32)), (.ref b16)]))
    obtain ⟨cl22, Ar22, q22, S22, N22', H22, G22⟩ := id V20
    have hin22 : ¬ ((2 : Int32) < 0 ∨ cl22.slots.size ≤ ((2 : Int32)).toNatClampNeg) := inb_of S22 ⟨by decide, by decide⟩
    obtain ⟨T22, h22, X22, e22, W22, st22⟩ := stD X20 hx hZ e20 Ar22 (j := (2 : Int32)) hin22 (g := (mkF m 66 #[.val (.int p0), .val (.long q1), .second, .val (.long q2), .second, .val (.long q3), .second, .val (.long q4), .second, .val (.int (3 : Int32)), .val (.double (FP.l2d q1)), .second, .val (.double (FP.l2d q2)), .second, .val (.double (FP.l2d q3)), .second, .val (.double (FP.l2d q4)), .second, .val (.ref b16), .unset, .unset, .unset, .unset] [(.double (FP.l2d q3)), (.int (2 : Int32)), (.ref b16)])) rfl rfl (hb hby at_66)
    have V22 : Arv Z h22 b16 k16 .double (3 : Int32) [(.double (FP.l2d q1)), (.double (FP.l2d q2)), (.double (FP.l2d q3))] (.double (0 : UInt64)) := Arv.set Ar22 q22 S22 N22' H22 G22 rfl W22 (2) rfl (Nat.le_of_ble_eq_true rfl)
    have K23 : Keep h0 h22 [] := K21.wr W22 (Or.inr sz_b16)
    have N22 := Fr.snoc X22 N20 g_b16
    refine Runs.by st22 ?_
    show Runs p e below _ (T22.setTop (mkF m 67 #[.val (.int p0), .val (.long q1), .second, .val (.long q2), .second, .val (.long q3), .second, .val (.long q4), .second, .val (.int (3 : Int32)), .val (.double (FP.l2d q1)), .second, .val (.double (FP.l2d q2)), .second, .val (.double (FP.l2d q3)), .second, .val (.double (FP.l2d q4)), .second, .val (.ref b16), .unset, .unset, .unset, .unset] []))
    refine Runs.by (fun _ hr => XS.iload X22.here hx rfl (hb hby at_67) rfl  hr) ?_
    show Runs p e below _ (T22.setTop (mkF m 69 #[.val (.int p0), .val (.long q1), .second, .val (.long q2), .second, .val (.long q3), .second, .val (.long q4), .second, .val (.int (3 : Int32)), .val (.double (FP.l2d q1)), .second, .val (.double (FP.l2d q2)), .second, .val (.double (FP.l2d q3)), .second, .val (.double (FP.l2d q4)), .second, .val (.ref b16), .unset, .unset, .unset, .unset] [(.int (3 : Int32))]))
    refine Runs.by (fun _ hr => XS.iconst X22.here hx rfl (hb hby at_69) hr) ?_
    show Runs p e below _ (T22.setTop (mkF m 70 #[.val (.int p0), .val (.long q1), .second, .val (.long q2), .second, .val (.long q3), .second, .val (.long q4), .second, .val (.int (3 : Int32)), .val (.double (FP.l2d q1)), .second, .val (.double (FP.l2d q2)), .second, .val (.double (FP.l2d q3)), .second, .val (.double (FP.l2d q4)), .second, .val (.ref b16), .unset, .unset, .unset, .unset] [(.int (3 : Int32)), (.int (3 : Int32))]))
    have hc70 : ¬ ((3 : Int32) < (3 : Int32)) := (by decide)
    refine Runs.by (fun _ hr => XS.icmpYes X22.here hx rfl (pc0 := 70) (pc' := 79) rfl (hb hby at_70) rfl (flt hc70).2.2.2 (by decide) (by decide) hr) ?_
    show Runs p e below _ (T22.setTop (mkF m 79 #[.val (.int p0), .val (.long q1), .second, .val (.long q2), .second, .val (.long q3), .second, .val (.long q4), .second, .val (.int (3 : Int32)), .val (.double (FP.l2d q1)), .second, .val (.double (FP.l2d q2)), .second, .val (.double (FP.l2d q3)), .second, .val (.double (FP.l2d q4)), .second, .val (.ref b16), .unset, .unset, .unset, .unset] []))
    refine Runs.by (fun _ hr => XS.dconst0 X22.here hx rfl (hb hby at_79) rfl hr) ?_
    show Runs p e below _ (T22.setTop (mkF m 80 #[.val (.int p0), .val (.long q1), .second, .val (.long q2), .second, .val (.long q3), .second, .val (.long q4), .second, .val (.int (3 : Int32)), .val (.double (FP.l2d q1)), .second, .val (.double (FP.l2d q2)), .second, .val (.double (FP.l2d q3)), .second, .val (.double (FP.l2d q4)), .second, .val (.ref b16), .unset, .unset, .unset, .unset] [(.double FP.dconst0)]))
    refine Runs.by (fun _ hr => XS.dstore X22.here hx rfl (hb hby at_80) rfl (l' := #[.val (.int p0), .val (.long q1), .second, .val (.long q2), .second, .val (.long q3), .second, .val (.long q4), .second, .val (.int (3 : Int32)), .val (.double (FP.l2d q1)), .second, .val (.double (FP.l2d q2)), .second, .val (.double (FP.l2d q3)), .second, .val (.double (FP.l2d q4)), .second, .val (.ref b16), .val (.double FP.dconst0), .second, .unset, .unset]) rfl hr) ?_
    show Runs p e below _ (T22.setTop (mkF m 82 #[.val (.int p0), .val (.long q1), .second, .val (.long q2), .second, .val (.long q3), .second, .val (.long q4), .second, .val (.int (3 : Int32)), .val (.double (FP.l2d q1)), .second, .val (.double (FP.l2d q2)), .second, .val (.double (FP.l2d q3)), .second, .val (.double (FP.l2d q4)), .second, .val (.ref b16), .val (.double FP.dconst0), .second, .unset, .unset] []))
    refine Runs.by (fun _ hr => XS.iload X22.here hx rfl (hb hby at_82) rfl  hr) ?_
    show Runs p e below _ (T22.setTop (mkF m 84 #[.val (.int p0), .val (.long q1), .second, .val (.long q2), .second, .val (.long q3), .second, .val (.long q4), .second, .val (.int (3 : Int32)), .val (.double (FP.l2d q1)), .second, .val (.double (FP.l2d q2)), .second, .val (.double (FP.l2d q3)), .second, .val (.double (FP.l2d q4)), .second, .val (.ref b16), .val (.double FP.dconst0), .second, .unset, .unset] [(.int (3 : Int32))]))
    have hc84 : (0 : Int32) < (3 : Int32) := (by decide)
    refine Runs.by (fun _ hr => XS.ifNo X22.here hx rfl (hb hby at_84) rfl ((if0 _ _).trans (tlt hc84).2.2.2) hr) ?_
    show Runs p e below _ (T22.setTop (mkF m 87 #[.val (.int p0), .val (.long q1), .second, .val (.long q2), .second, .val (.long q3), .second, .val (.long q4), .second, .val (.int (3 : Int32)), .val (.double (FP.l2d q1)), .second, .val (.double (FP.l2d q2)), .second, .val (.double (FP.l2d q3)), .second, .val (.double (FP.l2d q4)), .second, .val (.ref b16), .val (.double FP.dconst0), .second, .unset, .unset] []))
    refine Runs.by (fun _ hr => XS.dload X22.here hx rfl (hb hby at_87) rfl  hr) ?_
    show Runs p e below _ (T22.setTop (mkF m 89 #[.val (.int p0), .val (.long q1), .second, .val (.long q2), .second, .val (.long q3), .second, .val (.long q4), .second, .val (.int (3 : Int32)), .val (.double (FP.l2d q1)), .second, .val (.double (FP.l2d q2)), .second, .val (.double (FP.l2d q3)), .second, .val (.double (FP.l2d q4)), .second, .val (.ref b16), .val (.double FP.dconst0), .second, .unset, .unset] [(.double FP.dconst0)]))
    refine Runs.by (fun _ hr => XS.dload X22.here hx rfl (hb hby at_89) rfl  hr) ?_
    show Runs p e below _ (T22.setTop (mkF m 91 #[.val (.int p0), .val (.long q1), .second, .val (.long q2), .second, .val (.long q3), .second, .val (.long q4), .second, .val (.int (3 : Int32)), .val (.double (FP.l2d q1)), .second, .val (.double (FP.l2d q2)), .second, .val (.double (FP.l2d q3)), .second, .val (.double (FP.l2d q4)), .second, .val (.ref b16), .val (.double FP.dconst0), .second, .unset, .unset] [(.double (FP.l2d q1)), (.double FP.dconst0)]))
    refine Runs.by (fun _ hr => XS.daddS X22.here hx rfl (hb hby at_91) rfl (Jvm.Free.Fl.dadd_out own_d0 (Jvm.Free.Fl.l2d_fin q1)) rfl hr) ?_
    show Runs p e below _ (T22.setTop (mkF m 92 #[.val (.int p0), .val (.long q1), .second, .val (.long q2), .second, .val (.long q3), .second, .val (.long q4), .second, .val (.int (3 : Int32)), .val (.double (FP.l2d q1)), .second, .val (.double (FP.l2d q2)), .second, .val (.double (FP.l2d q3)), .second, .val (.double (FP.l2d q4)), .second, .val (.ref b16), .val (.double FP.dconst0), .second, .unset, .unset] [(.double (FP.dadd FP.dconst0 (FP.l2d q1)))]))
    refine Runs.by (fun _ hr => XS.dstore X22.here hx rfl (hb hby at_92) rfl (l' := #[.val (.int p0), .val (.long q1), .second, .val (.long q2), .second, .val (.long q3), .second, .val (.long q4), .second, .val (.int (3 : Int32)), .val (.double (FP.l2d q1)), .second, .val (.double (FP.l2d q2)), .second, .val (.double (FP.l2d q3)), .second, .val (.double (FP.l2d q4)), .second, .val (.ref b16), .val (.double (FP.dadd FP.dconst0 (FP.l2d q1))), .second, .unset, .unset]) rfl hr) ?_
    show Runs p e below _ (T22.setTop (mkF m 94 #[.val (.int p0), .val (.long q1), .second, .val (.long q2), .second, .val (.long q3), .second, .val (.long q4), .second, .val (.int (3 : Int32)), .val (.double (FP.l2d q1)), .second, .val (.double (FP.l2d q2)), .second, .val (.double (FP.l2d q3)), .second, .val (.double (FP.l2d q4)), .second, .val (.ref b16), .val (.double (FP.dadd FP.dconst0 (FP.l2d q1))), .second, .unset, .unset] []))
    refine Runs.by (fun _ hr => XS.iload X22.here hx rfl (hb hby at_94) rfl  hr) ?_
    show Runs p e below _ (T22.setTop (mkF m 96 #[.val (.int p0), .val (.long q1), .second, .val (.long q2), .second, .val (.long q3), .second, .val (.long q4), .second, .val (.int (3 : Int32)), .val (.double (FP.l2d q1)), .second, .val (.double (FP.l2d q2)), .second, .val (.double (FP.l2d q3)), .second, .val (.double (FP.l2d q4)), .second, .val (.ref b16), .val (.double (FP.dadd FP.dconst0 (FP.l2d q1))), .second, .unset, .unset] [(.int (3 : Int32))]))
    refine Runs.by (fun _ hr => XS.iconst X22.here hx rfl (hb hby at_96) hr) ?_
    show Runs p e below _ (T22.setTop (mkF m 97 #[.val (.int p0), .val (.long q1), .second, .val (.long q2), .second, .val (.long q3), .second, .val (.long q4), .second, .val (.int (3 : Int32)), .val (.double (FP.l2d q1)), .second, .val (.double (FP.l2d q2)), .second, .val (.double (FP.l2d q3)), .second, .val (.double (FP.l2d q4)), .second, .val (.ref b16), .val (.double (FP.dadd FP.dconst0 (FP.l2d q1))), .second, .unset, .unset] [(.int (1 : Int32)), (.int (3 : Int32))]))
    have hc97 : (1 : Int32) < (3 : Int32) := (by decide)
    refine Runs.by (fun _ hr => XS.icmpNo X22.here hx rfl (hb hby at_97) rfl (tlt hc97).2.2.2 hr) ?_
    show Runs p e below _ (T22.setTop (mkF m 100 #[.val (.int p0), .val (.long q1), .second, .val (.long q2), .second, .val (.long q3), .second, .val (.long q4), .second, .val (.int (3 : Int32)), .val (.double (FP.l2d q1)), .second, .val (.double (FP.l2d q2)), .second, .val (.double (FP.l2d q3)), .second, .val (.double (FP.l2d q4)), .second, .val (.ref b16), .val (.double (FP.dadd FP.dconst0 (FP.l2d q1))), .second, .unset, .unset] []))
    refine Runs.by (fun _ hr => XS.dload X22.here hx rfl (hb hby at_100) rfl  hr) ?_
    show Runs p e below _ (T22.setTop (mkF m 102 #[.val (.int p0), .val (.long q1), .second, .val (.long q2), .second, .val (.long q3), .second, .val (.long q4), .second, .val (.int (3 : Int32)), .val (.double (FP.l2d q1)), .second, .val (.double (FP.l2d q2)), .second, .val (.double (FP.l2d q3)), .second, .val (.double (FP.l2d q4)), .second, .val (.ref b16), .val (.double (FP.dadd FP.dconst0 (FP.l2d q1))), .second, .unset, .unset] [(.double (FP.dadd FP.dconst0 (FP.l2d q1)))]))
    refine Runs.by (fun _ hr => XS.dload X22.here hx rfl (hb hby at_102) rfl  hr) ?_
    show Runs p e below _ (T22.setTop (mkF m 104 #[.val (.int p0), .val (.long q1), .second, .val (.long q2), .second, .val (.long q3), .second, .val (.long q4), .second, .val (.int (3 : Int32)), .val (.double (FP.l2d q1)), .second, .val (.double (FP.l2d q2)), .second, .val (.double (FP.l2d q3)), .second, .val (.double (FP.l2d q4)), .second, .val (.ref b16), .val (.double (FP.dadd FP.dconst0 (FP.l2d q1))), .second, .unset, .unset] [(.double (FP.l2d q2)), (.double (FP.dadd FP.dconst0 (FP.l2d q1)))]))
    refine Runs.by (fun _ hr => XS.daddS X22.here hx rfl (hb hby at_104) rfl (Jvm.Free.Fl.dadd_out (Jvm.Free.Fl.dadd_out own_d0 (Jvm.Free.Fl.l2d_fin q1)) (Jvm.Free.Fl.l2d_fin q2)) rfl hr) ?_
    show Runs p e below _ (T22.setTop (mkF m 105 #[.val (.int p0), .val (.long q1), .second, .val (.long q2), .second, .val (.long q3), .second, .val (.long q4), .second, .val (.int (3 : Int32)), .val (.double (FP.l2d q1)), .second, .val (.double (FP.l2d q2)), .second, .val (.double (FP.l2d q3)), .second, .val (.double (FP.l2d q4)), .second, .val (.ref b16), .val (.double (FP.dadd FP.dconst0 (FP.l2d q1))), .second, .unset, .unset] [(.double (FP.dadd (FP.dadd FP.dconst0 (FP.l2d q1)) (FP.l2d q2)))]))
    refine Runs.by (fun _ hr => XS.dstore X22.here hx rfl (hb hby at_105) rfl (l' := #[.val (.int p0), .val (.long q1), .second, .val (.long q2), .second, .val (.long q3), .second, .val (.long q4), .second, .val (.int (3 : Int32)), .val (.double (FP.l2d q1)), .second, .val (.double (FP.l2d q2)), .second, .val (.double (FP.l2d q3)), .second, .val (.double (FP.l2d q4)), .second, .val (.ref b16), .val (.double (FP.dadd (FP.dadd FP.dconst0 (FP.l2d q1)) (FP.l2d q2))), .second, .unset, .unset]) rfl hr) ?_
    show Runs p e below _ (T22.setTop (mkF m 107 #[.val (.int p0), .val (.long q1), .second, .val (.long q2), .second, .val (.long q3), .second, .val (.long q4), .second, .val (.int (3 : Int32)), .val (.double (FP.l2d q1)), .second, .val (.double (FP.l2d q2)), .second, .val (.double (FP.l2d q3)), .second, .val (.double (FP.l2d q4)), .second, .val (.ref b16), .val (.double (FP.dadd (FP.dadd FP.dconst0 (FP.l2d q1)) (FP.l2d q2))), .second, .unset, .unset] []))
    refine Runs.by (fun _ hr => XS.iload X22.here hx rfl (hb hby at_107) rfl  hr) ?_
    show Runs p e below _ (T22.setTop (mkF m 109 #[.val (.int p0), .val (.long q1), .second, .val (.long q2), .second, .val (.long q3), .second, .val (.long q4), .second, .val (.int (3 : Int32)), .val (.double (FP.l2d q1)), .second, .val (.double (FP.l2d q2)), .second, .val (.double (FP.l2d q3)), .second, .val (.double (FP.l2d q4)), .second, .val (.ref b16), .val (.double (FP.dadd (FP.dadd FP.dconst0 (FP.l2d q1)) (FP.l2d q2))), .second, .unset, .unset] [(.int (3 : Int32))]))
    refine Runs.by (fun _ hr => XS.iconst X22.here hx rfl (hb hby at_109) hr) ?_
    show Runs p e below _ (T22.setTop (mkF m 110 #[.val (.int p0), .val (.long q1), .second, .val (.long q2), .second, .val (.long q3), .second, .val (.long q4), .second, .val (.int (3 : Int32)), .val (.double (FP.l2d q1)), .second, .val (.double (FP.l2d q2)), .second, .val (.double (FP.l2d q3)), .second, .val (.double (FP.l2d q4)), .second, .val (.ref b16), .val (.double (FP.dadd (FP.dadd FP.dconst0 (FP.l2d q1)) (FP.l2d q2))), .second, .unset, .unset] [(.int (2 : Int32)), (.int (3 : Int32))]))
    have hc110 : (2 : Int32) < (3 : Int32) := (by decide)
    refine Runs.by (fun _ hr => XS.icmpNo X22.here hx rfl (hb hby at_110) rfl (tlt hc110).2.2.2 hr) ?_
    show Runs p e below _ (T22.setTop (mkF m 113 #[.val (.int p0), .val (.long q1), .second, .val (.long q2), .second, .val (.long q3), .second, .val (.long q4), .second, .val (.int (3 : Int32)), .val (.double (FP.l2d q1)), .second, .val (.double (FP.l2d q2)), .second, .val (.double (FP.l2d q3)), .second, .val (.double (FP.l2d q4)), .second, .val (.ref b16), .val (.double (FP.dadd (FP.dadd FP.dconst0 (FP.l2d q1)) (FP.l2d q2))), .second, .unset, .unset] []))
    refine Runs.by (fun _ hr => XS.dload X22.here hx rfl (hb hby at_113) rfl  hr) ?_
    show Runs p e below _ (T22.setTop (mkF m 115 #[.val (.int p0), .val (.long q1), .second, .val (.long q2), .second, .val (.long q3), .second, .val (.long q4), .second, .val (.int (3 : Int32)), .val (.double (FP.l2d q1)), .second, .val (.double (FP.l2d q2)), .second, .val (.double (FP.l2d q3)), .second, .val (.double (FP.l2d q4)), .second, .val (.ref b16), .val (.double (FP.dadd (FP.dadd FP.dconst0 (FP.l2d q1)) (FP.l2d q2))), .second, .unset, .unset] [(.double (FP.dadd (FP.dadd FP.dconst0 (FP.l2d q1)) (FP.l2d q2)))]))
    refine Runs.by (fun _ hr => XS.dload X22.here hx rfl (hb hby at_115) rfl  hr) ?_
    show Runs p e below _ (T22.setTop (mkF m 117 #[.val (.int p0), .val (.long q1), .second, .val (.long q2), .second, .val (.long q3), .second, .val (.long q4), .second, .val (.int (3 : Int32)), .val (.double (FP.l2d q1)), .second, .val (.double (FP.l2d q2)), .second, .val (.double (FP.l2d q3)), .second, .val (.double (FP.l2d q4)), .second, .val (.ref b16), .val (.double (FP.dadd (FP.dadd FP.dconst0 (FP.l2d q1)) (FP.l2d q2))), .second, .unset, .unset] [(.double (FP.l2d q3)), (.double (FP.dadd (FP.dadd FP.dconst0 (FP.l2d q1)) (FP.l2d q2)))]))
    refine Runs.by (fun _ hr => XS.daddS X22.here hx rfl (hb hby at_117) rfl (Jvm.Free.Fl.dadd_out (Jvm.Free.Fl.dadd_out (Jvm.Free.Fl.dadd_out own_d0 (Jvm.Free.Fl.l2d_fin q1)) (Jvm.Free.Fl.l2d_fin q2)) (Jvm.Free.Fl.l2d_fin q3)) rfl hr) ?_
    show Runs p e below _ (T22.setTop (mkF m 118 #[.val (.int p0), .val (.long q1), .second, .val (.long q2), .second, .val (.long q3), .second, .val (.long q4), .second, .val (.int (3 : Int32)), .val (.double (FP.l2d q1)), .second, .val (.double (FP.l2d q2)), .second, .val (.double (FP.l2d q3)), .second, .val (.double (FP.l2d q4)), .second, .val (.ref b16), .val (.double (FP.dadd (FP.dadd FP.dconst0 (FP.l2d q1)) (FP.l2d q2))), .second, .unset, .unset] [(.double (FP.dadd (FP.dadd (FP.dadd FP.dconst0 (FP.l2d q1)) (FP.l2d q2)) (FP.l2d q3)))]))
    refine Runs.by (fun _ hr => XS.dstore X22.here hx rfl (hb hby at_118) rfl (l' := #[.val (.int p0), .val (.long q1), .second, .val (.long q2), .second, .val (.long q3), .second, .val (.long q4), .second, .val (.int (3 : Int32)), .val (.double (FP.l2d q1)), .second, .val (.double (FP.l2d q2)), .second, .val (.double (FP.l2d q3)), .second, .val (.double (FP.l2d q4)), .second, .val (.ref b16), .val (.double (FP.dadd (FP.dadd (FP.dadd FP.dconst0 (FP.l2d q1)) (FP.l2d q2)) (FP.l2d q3))), .second, .unset, .unset]) rfl hr) ?_
    show Runs p e below _ (T22.setTop (mkF m 120 #[.val (.int p0), .val (.long q1), .second, .val (.long q2), .second, .val (.long q3), .second, .val (.long q4), .second, .val (.int (3 : Int32)), .val (.double (FP.l2d q1)), .second, .val (.double (FP.l2d q2)), .second, .val (.double (FP.l2d q3)), .second, .val (.double (FP.l2d q4)), .second, .val (.ref b16), .val (.double (FP.dadd (FP.dadd (FP.dadd FP.dconst0 (FP.l2d q1)) (FP.l2d q2)) (FP.l2d q3))), .second, .unset, .unset] []))
    refine Runs.by (fun _ hr => XS.iload X22.here hx rfl (hb hby at_120) rfl  hr) ?_
    show Runs p e below _ (T22.setTop (mkF m 122 #[.val (.int p0), .val (.long q1), .second, .val (.long q2), .second, .val (.long q3), .second, .val (.long q4), .second, .val (.int (3 : Int32)), .val (.double (FP.l2d q1)), .second, .val (.double (FP.l2d q2)), .second, .val (.double (FP.l2d q3)), .second, .val (.double (FP.l2d q4)), .second, .val (.ref b16), .val (.double (FP.dadd (FP.dadd (FP.dadd FP.dconst0 (FP.l2d q1)) (FP.l2d q2)) (FP.l2d q3))), .second, .unset, .unset] [(.int (3 : Int32))]))
    refine Runs.by (fun _ hr => XS.iconst X22.here hx rfl (hb hby at_122) hr) ?_
    show Runs p e below _ (T22.setTop (mkF m 123 #[.val (.int p0), .val (.long q1), .second, .val (.long q2), .second, .val (.long q3), .second, .val (.long q4), .second, .val (.int (3 : Int32)), .val (.double (FP.l2d q1)), .second, .val (.double (FP.l2d q2)), .second, .val (.double (FP.l2d q3)), .second, .val (.double (FP.l2d q4)), .second, .val (.ref b16), .val (.double (FP.dadd (FP.dadd (FP.dadd FP.dconst0 (FP.l2d q1)) (FP.l2d q2)) (FP.l2d q3))), .second, .unset, .unset] [(.int (3 : Int32)), (.int (3 : Int32))]))
    have hc123 : ¬ ((3 : Int32) < (3 : Int32)) := (by decide)
    refine Runs.by (fun _ hr => XS.icmpYes X22.here hx rfl (pc0 := 123) (pc' := 133) rfl (hb hby at_123) rfl (flt hc123).2.2.2 (by decide) (by decide) hr) ?_
    show Runs p e below _ (T22.setTop (mkF m 133 #[.val (.int p0), .val (.long q1), .second, .val (.long q2), .second, .val (.long q3), .second, .val (.long q4), .second, .val (.int (3 : Int32)), .val (.double (FP.l2d q1)), .second, .val (.double (FP.l2d q2)), .second, .val (.double (FP.l2d q3)), .second, .val (.double (FP.l2d q4)), .second, .val (.ref b16), .val (.double (FP.dadd (FP.dadd (FP.dadd FP.dconst0 (FP.l2d q1)) (FP.l2d q2)) (FP.l2d q3))), .second, .unset, .unset] []))
    refine Runs.by (fun _ hr => XS.aload X22.here hx rfl (hb hby at_133) rfl rfl hr) ?_
    show Runs p e below _ (T22.setTop (mkF m 135 #[.val (.int p0), .val (.long q1), .second, .val (.long q2), .second, .val (.long q3), .second, .val (.long q4), .second, .val (.int (3 : Int32)), .val (.double (FP.l2d q1)), .second, .val (.double (FP.l2d q2)), .second, .val (.double (FP.l2d q3)), .second, .val (.double (FP.l2d q4)), .second, .val (.ref b16), .val (.double (FP.dadd (FP.dadd (FP.dadd FP.dconst0 (FP.l2d q1)) (FP.l2d q2)) (FP.l2d q3))), .second, .unset, .unset] [(.ref b16)]))
    obtain ⟨_, _, ⟨T24, L24, k24, n24⟩, -, X24, ⟨Lc24, hQ24, l24, y24, z24⟩, st24⟩ := Jvm.LawKit.callS X22 hx (y := (⟨"com/example/threshold/threshold/engine/Bm25", "sum", "([D)D"⟩ : MethodName)) hown (mvT hZ (hw _ (List.mem_of_getElem? (i := 2) rfl))) (mvT hZ (hw _ (List.mem_of_getElem? (i := 3) rfl))) (mvT hZ (hw _ (List.mem_of_getElem? (i := 4) rfl))) (mvT hZ (hw _ (List.mem_of_getElem? (i := 5) rfl))) (by decide) (backOf (W := 0) (rm1_3 l Z a0 hw [] b16 k16 (FP.l2d q1) (FP.l2d q2) (FP.l2d q3) h22 n0 (Nat.le_trans Z0 K23.1) V22 (Jvm.Free.Fl.l2d_fin q1) (Jvm.Free.Fl.l2d_fin q2) (Jvm.Free.Fl.l2d_fin q3)) hZ (hw _ (List.mem_of_getElem? (i := 5) rfl)) (hw _ (List.mem_of_getElem? (i := 4) rfl)) (by decide) (by decide)) (g := (mkF m 135 #[.val (.int p0), .val (.long q1), .second, .val (.long q2), .second, .val (.long q3), .second, .val (.long q4), .second, .val (.int (3 : Int32)), .val (.double (FP.l2d q1)), .second, .val (.double (FP.l2d q2)), .second, .val (.double (FP.l2d q3)), .second, .val (.double (FP.l2d q4)), .second, .val (.ref b16), .val (.double (FP.dadd (FP.dadd (FP.dadd FP.dconst0 (FP.l2d q1)) (FP.l2d q2)) (FP.l2d q3))), .second, .unset, .unset] [(.ref b16)])) rfl (by rw [hml]; rfl) (argsL := [(.ref b16)]) (rest := []) (lenOf pd_0 rfl) rfl (by show 2 * 0 + _ ≤ _; exact Nat.le_of_eq rfl) (hb hby at_135) (fun _ _ => ⟨rfl, e22, (by decide : 1 + 0 ≤ _), (by decide : 3 + 0 ≤ _)⟩)
    dsimp only [Pt.U, Pt.locs, Pt.cells, Pt.slots] at X24 l24 y24 z24 st24 hQ24
    subst l24 y24 z24
    obtain ⟨rfl, Nq24, eq24⟩ := hQ24
    have N24 := Fr.app N22 Nq24
    refine Runs.by (fun t hr => st24 t hr) ?_
    show Runs p e below _ (T24.setTop (mkF m 138 #[.val (.int p0), .val (.long q1), .second, .val (.long q2), .second, .val (.long q3), .second, .val (.long q4), .second, .val (.int (3 : Int32)), .val (.double (FP.l2d q1)), .second, .val (.double (FP.l2d q2)), .second, .val (.double (FP.l2d q3)), .second, .val (.double (FP.l2d q4)), .second, .val (.ref b16), .val (.double (FP.dadd (FP.dadd (FP.dadd FP.dconst0 (FP.l2d q1)) (FP.l2d q2)) (FP.l2d q3))), .second, .unset, .unset] [(.double (FP.dadd (FP.dadd (FP.dadd FP.dconst0 (FP.l2d q1)) (FP.l2d q2)) (FP.l2d q3)))]))
    refine Runs.by (fun _ hr => XS.dstore X24.here hx rfl (hb hby at_138) rfl (l' := #[.val (.int p0), .val (.long q1), .second, .val (.long q2), .second, .val (.long q3), .second, .val (.long q4), .second, .val (.int (3 : Int32)), .val (.double (FP.l2d q1)), .second, .val (.double (FP.l2d q2)), .second, .val (.double (FP.l2d q3)), .second, .val (.double (FP.l2d q4)), .second, .val (.ref b16), .val (.double (FP.dadd (FP.dadd (FP.dadd FP.dconst0 (FP.l2d q1)) (FP.l2d q2)) (FP.l2d q3))), .second, .val (.double (FP.dadd (FP.dadd (FP.dadd FP.dconst0 (FP.l2d q1)) (FP.l2d q2)) (FP.l2d q3))), .second]) rfl hr) ?_
    show Runs p e below _ (T24.setTop (mkF m 140 #[.val (.int p0), .val (.long q1), .second, .val (.long q2), .second, .val (.long q3), .second, .val (.long q4), .second, .val (.int (3 : Int32)), .val (.double (FP.l2d q1)), .second, .val (.double (FP.l2d q2)), .second, .val (.double (FP.l2d q3)), .second, .val (.double (FP.l2d q4)), .second, .val (.ref b16), .val (.double (FP.dadd (FP.dadd (FP.dadd FP.dconst0 (FP.l2d q1)) (FP.l2d q2)) (FP.l2d q3))), .second, .val (.double (FP.dadd (FP.dadd (FP.dadd FP.dconst0 (FP.l2d q1)) (FP.l2d q2)) (FP.l2d q3))), .second] []))
    refine Runs.by (fun _ hr => XS.dload X24.here hx rfl (hb hby at_140) rfl  hr) ?_
    show Runs p e below _ (T24.setTop (mkF m 142 #[.val (.int p0), .val (.long q1), .second, .val (.long q2), .second, .val (.long q3), .second, .val (.long q4), .second, .val (.int (3 : Int32)), .val (.double (FP.l2d q1)), .second, .val (.double (FP.l2d q2)), .second, .val (.double (FP.l2d q3)), .second, .val (.double (FP.l2d q4)), .second, .val (.ref b16), .val (.double (FP.dadd (FP.dadd (FP.dadd FP.dconst0 (FP.l2d q1)) (FP.l2d q2)) (FP.l2d q3))), .second, .val (.double (FP.dadd (FP.dadd (FP.dadd FP.dconst0 (FP.l2d q1)) (FP.l2d q2)) (FP.l2d q3))), .second] [(.double (FP.dadd (FP.dadd (FP.dadd FP.dconst0 (FP.l2d q1)) (FP.l2d q2)) (FP.l2d q3)))]))
    refine Runs.by (fun _ hr => XS.dload X24.here hx rfl (hb hby at_142) rfl  hr) ?_
    show Runs p e below _ (T24.setTop (mkF m 144 #[.val (.int p0), .val (.long q1), .second, .val (.long q2), .second, .val (.long q3), .second, .val (.long q4), .second, .val (.int (3 : Int32)), .val (.double (FP.l2d q1)), .second, .val (.double (FP.l2d q2)), .second, .val (.double (FP.l2d q3)), .second, .val (.double (FP.l2d q4)), .second, .val (.ref b16), .val (.double (FP.dadd (FP.dadd (FP.dadd FP.dconst0 (FP.l2d q1)) (FP.l2d q2)) (FP.l2d q3))), .second, .val (.double (FP.dadd (FP.dadd (FP.dadd FP.dconst0 (FP.l2d q1)) (FP.l2d q2)) (FP.l2d q3))), .second] [(.double (FP.dadd (FP.dadd (FP.dadd FP.dconst0 (FP.l2d q1)) (FP.l2d q2)) (FP.l2d q3))), (.double (FP.dadd (FP.dadd (FP.dadd FP.dconst0 (FP.l2d q1)) (FP.l2d q2)) (FP.l2d q3)))]))
    refine Runs.by (fun _ hr => XS.dcmpS X24.here hx rfl (hb hby at_144) rfl (dcmpV_self (Jvm.Free.Fl.dadd_out (Jvm.Free.Fl.dadd_out (Jvm.Free.Fl.dadd_out own_d0 (Jvm.Free.Fl.l2d_fin q1)) (Jvm.Free.Fl.l2d_fin q2)) (Jvm.Free.Fl.l2d_fin q3)) _) hr) ?_
    show Runs p e below _ (T24.setTop (mkF m 145 #[.val (.int p0), .val (.long q1), .second, .val (.long q2), .second, .val (.long q3), .second, .val (.long q4), .second, .val (.int (3 : Int32)), .val (.double (FP.l2d q1)), .second, .val (.double (FP.l2d q2)), .second, .val (.double (FP.l2d q3)), .second, .val (.double (FP.l2d q4)), .second, .val (.ref b16), .val (.double (FP.dadd (FP.dadd (FP.dadd FP.dconst0 (FP.l2d q1)) (FP.l2d q2)) (FP.l2d q3))), .second, .val (.double (FP.dadd (FP.dadd (FP.dadd FP.dconst0 (FP.l2d q1)) (FP.l2d q2)) (FP.l2d q3))), .second] [(.int (0 : Int32))]))
    have hc145 : (0 : Int32) = (0 : Int32) := (by decide)
    refine Runs.by (fun _ hr => XS.ifNo X24.here hx rfl (hb hby at_145) rfl ((if0 _ _).trans (teq hc145).2) hr) ?_
    show Runs p e below _ (T24.setTop (mkF m 148 #[.val (.int p0), .val (.long q1), .second, .val (.long q2), .second, .val (.long q3), .second, .val (.long q4), .second, .val (.int (3 : Int32)), .val (.double (FP.l2d q1)), .second, .val (.double (FP.l2d q2)), .second, .val (.double (FP.l2d q3)), .second, .val (.double (FP.l2d q4)), .second, .val (.ref b16), .val (.double (FP.dadd (FP.dadd (FP.dadd FP.dconst0 (FP.l2d q1)) (FP.l2d q2)) (FP.l2d q3))), .second, .val (.double (FP.dadd (FP.dadd (FP.dadd FP.dconst0 (FP.l2d q1)) (FP.l2d q2)) (FP.l2d q3))), .second] []))
    refine Runs.by (fun _ hr => XS.iconst X24.here hx rfl (hb hby at_148) hr) ?_
    show Runs p e below _ (T24.setTop (mkF m 149 #[.val (.int p0), .val (.long q1), .second, .val (.long q2), .second, .val (.long q3), .second, .val (.long q4), .second, .val (.int (3 : Int32)), .val (.double (FP.l2d q1)), .second, .val (.double (FP.l2d q2)), .second, .val (.double (FP.l2d q3)), .second, .val (.double (FP.l2d q4)), .second, .val (.ref b16), .val (.double (FP.dadd (FP.dadd (FP.dadd FP.dconst0 (FP.l2d q1)) (FP.l2d q2)) (FP.l2d q3))), .second, .val (.double (FP.dadd (FP.dadd (FP.dadd FP.dconst0 (FP.l2d q1)) (FP.l2d q2)) (FP.l2d q3))), .second] [(.int (1 : Int32))]))
    refine Runs.by (fun _ hr => XS.goto X24.here hx rfl (pc0 := 149) (pc' := 153) rfl (hb hby at_149) (by decide) (by decide) hr) ?_
    show Runs p e below _ (T24.setTop (mkF m 153 #[.val (.int p0), .val (.long q1), .second, .val (.long q2), .second, .val (.long q3), .second, .val (.long q4), .second, .val (.int (3 : Int32)), .val (.double (FP.l2d q1)), .second, .val (.double (FP.l2d q2)), .second, .val (.double (FP.l2d q3)), .second, .val (.double (FP.l2d q4)), .second, .val (.ref b16), .val (.double (FP.dadd (FP.dadd (FP.dadd FP.dconst0 (FP.l2d q1)) (FP.l2d q2)) (FP.l2d q3))), .second, .val (.double (FP.dadd (FP.dadd (FP.dadd FP.dconst0 (FP.l2d q1)) (FP.l2d q2)) (FP.l2d q3))), .second] [(.int (1 : Int32))]))
    refine Runs.ret X24 hx hrt hlk (Or.inl ⟨rfl, by simp, _, rfl⟩) (by rfl) (hb hby at_153) (by decide) (by decide) ?_
    rw [eq24]
    exact ⟨rfl, N24⟩
  · skip
    show Runs p e below _ (s₁.setTop (mkF m 8 #[.val (.int p0), .val (.long q1), .second, .val (.long q2), .second, .val (.long q3), .second, .val (.long q4), .second, .val (.int (4 : Int32)), .unset, .unset, .unset, .unset, .unset, .unset, .unset, .unset, .unset, .unset, .unset, .unset, .unset] []))
    refine Runs.by (fun _ hr => XS.lloadN X0.here hx rfl (hb hby at_8) rfl  hr) ?_
    show Runs p e below _ (s₁.setTop (mkF m 9 #[.val (.int p0), .val (.long q1), .second, .val (.long q2), .second, .val (.long q3), .second, .val (.long q4), .second, .val (.int (4 : Int32)), .unset, .unset, .unset, .unset, .unset, .unset, .unset, .unset, .unset, .unset, .unset, .unset, .unset] [(.long q1)]))
    refine Runs.by (fun _ hr => XS.l2dS X0.here hx rfl (hb hby at_9) rfl rfl hr) ?_
    show Runs p e below _ (s₁.setTop (mkF m 10 #[.val (.int p0), .val (.long q1), .second, .val (.long q2), .second, .val (.long q3), .second, .val (.long q4), .second, .val (.int (4 : Int32)), .unset, .unset, .unset, .unset, .unset, .unset, .unset, .unset, .unset, .unset, .unset, .unset, .unset] [(.double (FP.l2d q1))]))
    refine Runs.by (fun _ hr => XS.dstore X0.here hx rfl (hb hby at_10) rfl (l' := #[.val (.int p0), .val (.long q1), .second, .val (.long q2), .second, .val (.long q3), .second, .val (.long q4), .second, .val (.int (4 : Int32)), .val (.double (FP.l2d q1)), .second, .unset, .unset, .unset, .unset, .unset, .unset, .unset, .unset, .unset, .unset, .unset]) rfl hr) ?_
    show Runs p e below _ (s₁.setTop (mkF m 12 #[.val (.int p0), .val (.long q1), .second, .val (.long q2), .second, .val (.long q3), .second, .val (.long q4), .second, .val (.int (4 : Int32)), .val (.double (FP.l2d q1)), .second, .unset, .unset, .unset, .unset, .unset, .unset, .unset, .unset, .unset, .unset, .unset] []))
    refine Runs.by (fun _ hr => XS.lloadN X0.here hx rfl (hb hby at_12) rfl  hr) ?_
    show Runs p e below _ (s₁.setTop (mkF m 13 #[.val (.int p0), .val (.long q1), .second, .val (.long q2), .second, .val (.long q3), .second, .val (.long q4), .second, .val (.int (4 : Int32)), .val (.double (FP.l2d q1)), .second, .unset, .unset, .unset, .unset, .unset, .unset, .unset, .unset, .unset, .unset, .unset] [(.long q2)]))
    refine Runs.by (fun _ hr => XS.l2dS X0.here hx rfl (hb hby at_13) rfl rfl hr) ?_
    show Runs p e below _ (s₁.setTop (mkF m 14 #[.val (.int p0), .val (.long q1), .second, .val (.long q2), .second, .val (.long q3), .second, .val (.long q4), .second, .val (.int (4 : Int32)), .val (.double (FP.l2d q1)), .second, .unset, .unset, .unset, .unset, .unset, .unset, .unset, .unset, .unset, .unset, .unset] [(.double (FP.l2d q2))]))
    refine Runs.by (fun _ hr => XS.dstore X0.here hx rfl (hb hby at_14) rfl (l' := #[.val (.int p0), .val (.long q1), .second, .val (.long q2), .second, .val (.long q3), .second, .val (.long q4), .second, .val (.int (4 : Int32)), .val (.double (FP.l2d q1)), .second, .val (.double (FP.l2d q2)), .second, .unset, .unset, .unset, .unset, .unset, .unset, .unset, .unset, .unset]) rfl hr) ?_
    show Runs p e below _ (s₁.setTop (mkF m 16 #[.val (.int p0), .val (.long q1), .second, .val (.long q2), .second, .val (.long q3), .second, .val (.long q4), .second, .val (.int (4 : Int32)), .val (.double (FP.l2d q1)), .second, .val (.double (FP.l2d q2)), .second, .unset, .unset, .unset, .unset, .unset, .unset, .unset, .unset, .unset] []))
    refine Runs.by (fun _ hr => XS.lload X0.here hx rfl (hb hby at_16) rfl  hr) ?_
    show Runs p e below _ (s₁.setTop (mkF m 18 #[.val (.int p0), .val (.long q1), .second, .val (.long q2), .second, .val (.long q3), .second, .val (.long q4), .second, .val (.int (4 : Int32)), .val (.double (FP.l2d q1)), .second, .val (.double (FP.l2d q2)), .second, .unset, .unset, .unset, .unset, .unset, .unset, .unset, .unset, .unset] [(.long q3)]))
    refine Runs.by (fun _ hr => XS.l2dS X0.here hx rfl (hb hby at_18) rfl rfl hr) ?_
    show Runs p e below _ (s₁.setTop (mkF m 19 #[.val (.int p0), .val (.long q1), .second, .val (.long q2), .second, .val (.long q3), .second, .val (.long q4), .second, .val (.int (4 : Int32)), .val (.double (FP.l2d q1)), .second, .val (.double (FP.l2d q2)), .second, .unset, .unset, .unset, .unset, .unset, .unset, .unset, .unset, .unset] [(.double (FP.l2d q3))]))
    refine Runs.by (fun _ hr => XS.dstore X0.here hx rfl (hb hby at_19) rfl (l' := #[.val (.int p0), .val (.long q1), .second, .val (.long q2), .second, .val (.long q3), .second, .val (.long q4), .second, .val (.int (4 : Int32)), .val (.double (FP.l2d q1)), .second, .val (.double (FP.l2d q2)), .second, .val (.double (FP.l2d q3)), .second, .unset, .unset, .unset, .unset, .unset, .unset, .unset]) rfl hr) ?_
    show Runs p e below _ (s₁.setTop (mkF m 21 #[.val (.int p0), .val (.long q1), .second, .val (.long q2), .second, .val (.long q3), .second, .val (.long q4), .second, .val (.int (4 : Int32)), .val (.double (FP.l2d q1)), .second, .val (.double (FP.l2d q2)), .second, .val (.double (FP.l2d q3)), .second, .unset, .unset, .unset, .unset, .unset, .unset, .unset] []))
    refine Runs.by (fun _ hr => XS.lload X0.here hx rfl (hb hby at_21) rfl  hr) ?_
    show Runs p e below _ (s₁.setTop (mkF m 23 #[.val (.int p0), .val (.long q1), .second, .val (.long q2), .second, .val (.long q3), .second, .val (.long q4), .second, .val (.int (4 : Int32)), .val (.double (FP.l2d q1)), .second, .val (.double (FP.l2d q2)), .second, .val (.double (FP.l2d q3)), .second, .unset, .unset, .unset, .unset, .unset, .unset, .unset] [(.long q4)]))
    refine Runs.by (fun _ hr => XS.l2dS X0.here hx rfl (hb hby at_23) rfl rfl hr) ?_
    show Runs p e below _ (s₁.setTop (mkF m 24 #[.val (.int p0), .val (.long q1), .second, .val (.long q2), .second, .val (.long q3), .second, .val (.long q4), .second, .val (.int (4 : Int32)), .val (.double (FP.l2d q1)), .second, .val (.double (FP.l2d q2)), .second, .val (.double (FP.l2d q3)), .second, .unset, .unset, .unset, .unset, .unset, .unset, .unset] [(.double (FP.l2d q4))]))
    refine Runs.by (fun _ hr => XS.dstore X0.here hx rfl (hb hby at_24) rfl (l' := #[.val (.int p0), .val (.long q1), .second, .val (.long q2), .second, .val (.long q3), .second, .val (.long q4), .second, .val (.int (4 : Int32)), .val (.double (FP.l2d q1)), .second, .val (.double (FP.l2d q2)), .second, .val (.double (FP.l2d q3)), .second, .val (.double (FP.l2d q4)), .second, .unset, .unset, .unset, .unset, .unset]) rfl hr) ?_
    show Runs p e below _ (s₁.setTop (mkF m 26 #[.val (.int p0), .val (.long q1), .second, .val (.long q2), .second, .val (.long q3), .second, .val (.long q4), .second, .val (.int (4 : Int32)), .val (.double (FP.l2d q1)), .second, .val (.double (FP.l2d q2)), .second, .val (.double (FP.l2d q3)), .second, .val (.double (FP.l2d q4)), .second, .unset, .unset, .unset, .unset, .unset] []))
    refine Runs.by (fun _ hr => XS.iload X0.here hx rfl (hb hby at_26) rfl  hr) ?_
    show Runs p e below _ (s₁.setTop (mkF m 28 #[.val (.int p0), .val (.long q1), .second, .val (.long q2), .second, .val (.long q3), .second, .val (.long q4), .second, .val (.int (4 : Int32)), .val (.double (FP.l2d q1)), .second, .val (.double (FP.l2d q2)), .second, .val (.double (FP.l2d q3)), .second, .val (.double (FP.l2d q4)), .second, .unset, .unset, .unset, .unset, .unset] [(.int (4 : Int32))]))
    obtain ⟨T25, h25, k25, X25, e25, E25, A25, st25⟩ := newP X0 hx hZ (hw _ (List.mem_of_getElem? (i := 1) rfl)) e0 (g := (mkF m 28 #[.val (.int p0), .val (.long q1), .second, .val (.long q2), .second, .val (.long q3), .second, .val (.long q4), .second, .val (.int (4 : Int32)), .val (.double (FP.l2d q1)), .second, .val (.double (FP.l2d q2)), .second, .val (.double (FP.l2d q3)), .second, .val (.double (FP.l2d q4)), .second, .unset, .unset, .unset, .unset, .unset] [(.int (4 : Int32))])) rfl (hb hby at_28) rfl (by decide) (cap := 4) (by decide) (by decide) (by decide) (by decide)
    obtain ⟨b25, gz25⟩ : ∃ z, z = h0.size := ⟨_, rfl⟩
    rw [← gz25] at A25 st25
    have g_b25 : n0 ≤ b25 := Nat.le_trans (Nat.le_trans Z0 K0.1) (Nat.le_of_eq gz25.symm)
    have sz_b25 : h0.size ≤ b25 := Nat.le_trans K0.1 (Nat.le_of_eq gz25.symm)
    have K26 : Keep h0 h25 [] := K0.ext E25
    have V25 : Arv Z h25 b25 k25 .double (4 : Int32) [(.double (0 : UInt64)), (.double (0 : UInt64)), (.double (0 : UInt64)), (.double (0 : UInt64))] (.double (0 : UInt64)) := (Arv.new A25 (by decide)).pad (pad_rep [] (.double (0 : UInt64)) 4)
    refine Runs.by st25 ?_
    show Runs p e below _ (T25.setTop (mkF m 30 #[.val (.int p0), .val (.long q1), .second, .val (.long q2), .second, .val (.long q3), .second, .val (.long q4), .second, .val (.int (4 : Int32)), .val (.double (FP.l2d q1)), .second, .val (.double (FP.l2d q2)), .second, .val (.double (FP.l2d q3)), .second, .val (.double (FP.l2d q4)), .second, .unset, .unset, .unset, .unset, .unset] [(.ref b25)]))
    refine Runs.by (fun _ hr => XS.astore X25.here hx rfl (hb hby at_30) rfl rfl (l' := #[.val (.int p0), .val (.long q1), .second, .val (.long q2), .second, .val (.long q3), .second, .val (.long q4), .second, .val (.int (4 : Int32)), .val (.double (FP.l2d q1)), .second, .val (.double (FP.l2d q2)), .second, .val (.double (FP.l2d q3)), .second, .val (.double (FP.l2d q4)), .second, .val (.ref b25), .unset, .unset, .unset, .unset]) rfl hr) ?_
    show Runs p e below _ (T25.setTop (mkF m 32 #[.val (.int p0), .val (.long q1), .second, .val (.long q2), .second, .val (.long q3), .second, .val (.long q4), .second, .val (.int (4 : Int32)), .val (.double (FP.l2d q1)), .second, .val (.double (FP.l2d q2)), .second, .val (.double (FP.l2d q3)), .second, .val (.double (FP.l2d q4)), .second, .val (.ref b25), .unset, .unset, .unset, .unset] []))
    refine Runs.by (fun _ hr => XS.iload X25.here hx rfl (hb hby at_32) rfl  hr) ?_
    show Runs p e below _ (T25.setTop (mkF m 34 #[.val (.int p0), .val (.long q1), .second, .val (.long q2), .second, .val (.long q3), .second, .val (.long q4), .second, .val (.int (4 : Int32)), .val (.double (FP.l2d q1)), .second, .val (.double (FP.l2d q2)), .second, .val (.double (FP.l2d q3)), .second, .val (.double (FP.l2d q4)), .second, .val (.ref b25), .unset, .unset, .unset, .unset] [(.int (4 : Int32))]))
    have hc34 : (0 : Int32) < (4 : Int32) := (by decide)
    refine Runs.by (fun _ hr => XS.ifNo X25.here hx rfl (hb hby at_34) rfl ((if0 _ _).trans (tlt hc34).2.2.2) hr) ?_
    show Runs p e below _ (T25.setTop (mkF m 37 #[.val (.int p0), .val (.long q1), .second, .val (.long q2), .second, .val (.long q3), .second, .val (.long q4), .second, .val (.int (4 : Int32)), .val (.double (FP.l2d q1)), .second, .val (.double (FP.l2d q2)), .second, .val (.double (FP.l2d q3)), .second, .val (.double (FP.l2d q4)), .second, .val (.ref b25), .unset, .unset, .unset, .unset] []))
    refine Runs.by (fun _ hr => XS.aload X25.here hx rfl (hb hby at_37) rfl rfl hr) ?_
    show Runs p e below _ (T25.setTop (mkF m 39 #[.val (.int p0), .val (.long q1), .second, .val (.long q2), .second, .val (.long q3), .second, .val (.long q4), .second, .val (.int (4 : Int32)), .val (.double (FP.l2d q1)), .second, .val (.double (FP.l2d q2)), .second, .val (.double (FP.l2d q3)), .second, .val (.double (FP.l2d q4)), .second, .val (.ref b25), .unset, .unset, .unset, .unset] [(.ref b25)]))
    refine Runs.by (fun _ hr => XS.iconst X25.here hx rfl (hb hby at_39) hr) ?_
    show Runs p e below _ (T25.setTop (mkF m 40 #[.val (.int p0), .val (.long q1), .second, .val (.long q2), .second, .val (.long q3), .second, .val (.long q4), .second, .val (.int (4 : Int32)), .val (.double (FP.l2d q1)), .second, .val (.double (FP.l2d q2)), .second, .val (.double (FP.l2d q3)), .second, .val (.double (FP.l2d q4)), .second, .val (.ref b25), .unset, .unset, .unset, .unset] [(.int (0 : Int32)), (.ref b25)]))
    refine Runs.by (fun _ hr => XS.dload X25.here hx rfl (hb hby at_40) rfl  hr) ?_
    show Runs p e below _ (T25.setTop (mkF m 42 #[.val (.int p0), .val (.long q1), .second, .val (.long q2), .second, .val (.long q3), .second, .val (.long q4), .second, .val (.int (4 : Int32)), .val (.double (FP.l2d q1)), .second, .val (.double (FP.l2d q2)), .second, .val (.double (FP.l2d q3)), .second, .val (.double (FP.l2d q4)), .second, .val (.ref b25), .unset, .unset, .unset, .unset] [(.double (FP.l2d q1)), (.int (0 : Int32)), (.ref b25)]))
    obtain ⟨cl27, Ar27, q27, S27, N27', H27, G27⟩ := id V25
    have hin27 : ¬ ((0 : Int32) < 0 ∨ cl27.slots.size ≤ ((0 : Int32)).toNatClampNeg) := inb_of S27 ⟨by decide, by decide⟩
    obtain ⟨T27, h27, X27, e27, W27, st27⟩ := stD X25 hx hZ e25 Ar27 (j := (0 : Int32)) hin27 (g := (mkF m 42 #[.val (.int p0), .val (.long q1), .second, .val (.long q2), .second, .val (.long q3), .second, .val (.long q4), .second, .val (.int (4 : Int32)), .val (.double (FP.l2d q1)), .second, .val (.double (FP.l2d q2)), .second, .val (.double (FP.l2d q3)), .second, .val (.double (FP.l2d q4)), .second, .val (.ref b25), .unset, .unset, .unset, .unset] [(.double (FP.l2d q1)), (.int (0 : Int32)), (.ref b25)])) rfl rfl (hb hby at_42)
    have V27 : Arv Z h27 b25 k25 .double (4 : Int32) [(.double (FP.l2d q1)), (.double (0 : UInt64)), (.double (0 : UInt64)), (.double (0 : UInt64))] (.double (0 : UInt64)) := Arv.set Ar27 q27 S27 N27' H27 G27 rfl W27 (0) rfl (Nat.le_of_ble_eq_true rfl)
    have K28 : Keep h0 h27 [] := K26.wr W27 (Or.inr sz_b25)
    have N27 := Fr.snoc X27 N0 g_b25
    refine Runs.by st27 ?_
    show Runs p e below _ (T27.setTop (mkF m 43 #[.val (.int p0), .val (.long q1), .second, .val (.long q2), .second, .val (.long q3), .second, .val (.long q4), .second, .val (.int (4 : Int32)), .val (.double (FP.l2d q1)), .second, .val (.double (FP.l2d q2)), .second, .val (.double (FP.l2d q3)), .second, .val (.double (FP.l2d q4)), .second, .val (.ref b25), .unset, .unset, .unset, .unset] []))
    refine Runs.by (fun _ hr => XS.iload X27.here hx rfl (hb hby at_43) rfl  hr) ?_
    show Runs p e below _ (T27.setTop (mkF m 45 #[.val (.int p0), .val (.long q1), .second, .val (.long q2), .second, .val (.long q3), .second, .val (.long q4), .second, .val (.int (4 : Int32)), .val (.double (FP.l2d q1)), .second, .val (.double (FP.l2d q2)), .second, .val (.double (FP.l2d q3)), .second, .val (.double (FP.l2d q4)), .second, .val (.ref b25), .unset, .unset, .unset, .unset] [(.int (4 : Int32))]))
    refine Runs.by (fun _ hr => XS.iconst X27.here hx rfl (hb hby at_45) hr) ?_
    show Runs p e below _ (T27.setTop (mkF m 46 #[.val (.int p0), .val (.long q1), .second, .val (.long q2), .second, .val (.long q3), .second, .val (.long q4), .second, .val (.int (4 : Int32)), .val (.double (FP.l2d q1)), .second, .val (.double (FP.l2d q2)), .second, .val (.double (FP.l2d q3)), .second, .val (.double (FP.l2d q4)), .second, .val (.ref b25), .unset, .unset, .unset, .unset] [(.int (1 : Int32)), (.int (4 : Int32))]))
    have hc46 : (1 : Int32) < (4 : Int32) := (by decide)
    refine Runs.by (fun _ hr => XS.icmpNo X27.here hx rfl (hb hby at_46) rfl (tlt hc46).2.2.2 hr) ?_
    show Runs p e below _ (T27.setTop (mkF m 49 #[.val (.int p0), .val (.long q1), .second, .val (.long q2), .second, .val (.long q3), .second, .val (.long q4), .second, .val (.int (4 : Int32)), .val (.double (FP.l2d q1)), .second, .val (.double (FP.l2d q2)), .second, .val (.double (FP.l2d q3)), .second, .val (.double (FP.l2d q4)), .second, .val (.ref b25), .unset, .unset, .unset, .unset] []))
    refine Runs.by (fun _ hr => XS.aload X27.here hx rfl (hb hby at_49) rfl rfl hr) ?_
    show Runs p e below _ (T27.setTop (mkF m 51 #[.val (.int p0), .val (.long q1), .second, .val (.long q2), .second, .val (.long q3), .second, .val (.long q4), .second, .val (.int (4 : Int32)), .val (.double (FP.l2d q1)), .second, .val (.double (FP.l2d q2)), .second, .val (.double (FP.l2d q3)), .second, .val (.double (FP.l2d q4)), .second, .val (.ref b25), .unset, .unset, .unset, .unset] [(.ref b25)]))
    refine Runs.by (fun _ hr => XS.iconst X27.here hx rfl (hb hby at_51) hr) ?_
    show Runs p e below _ (T27.setTop (mkF m 52 #[.val (.int p0), .val (.long q1), .second, .val (.long q2), .second, .val (.long q3), .second, .val (.long q4), .second, .val (.int (4 : Int32)), .val (.double (FP.l2d q1)), .second, .val (.double (FP.l2d q2)), .second, .val (.double (FP.l2d q3)), .second, .val (.double (FP.l2d q4)), .second, .val (.ref b25), .unset, .unset, .unset, .unset] [(.int (1 : Int32)), (.ref b25)]))
    refine Runs.by (fun _ hr => XS.dload X27.here hx rfl (hb hby at_52) rfl  hr) ?_
    show Runs p e below _ (T27.setTop (mkF m 54 #[.val (.int p0), .val (.long q1), .second, .val (.long q2), .second, .val (.long q3), .second, .val (.long q4), .second, .val (.int (4 : Int32)), .val (.double (FP.l2d q1)), .second, .val (.double (FP.l2d q2)), .second, .val (.double (FP.l2d q3)), .second, .val (.double (FP.l2d q4)), .second, .val (.ref b25), .unset, .unset, .unset, .unset] [(.double (FP.l2d q2)), (.int (1 : Int32)), (.ref b25)]))
    obtain ⟨cl29, Ar29, q29, S29, N29', H29, G29⟩ := id V27
    have hin29 : ¬ ((1 : Int32) < 0 ∨ cl29.slots.size ≤ ((1 : Int32)).toNatClampNeg) := inb_of S29 ⟨by decide, by decide⟩
    obtain ⟨T29, h29, X29, e29, W29, st29⟩ := stD X27 hx hZ e27 Ar29 (j := (1 : Int32)) hin29 (g := (mkF m 54 #[.val (.int p0), .val (.long q1), .second, .val (.long q2), .second, .val (.long q3), .second, .val (.long q4), .second, .val (.int (4 : Int32)), .val (.double (FP.l2d q1)), .second, .val (.double (FP.l2d q2)), .second, .val (.double (FP.l2d q3)), .second, .val (.double (FP.l2d q4)), .second, .val (.ref b25), .unset, .unset, .unset, .unset] [(.double (FP.l2d q2)), (.int (1 : Int32)), (.ref b25)])) rfl rfl (hb hby at_54)
    have V29 : Arv Z h29 b25 k25 .double (4 : Int32) [(.double (FP.l2d q1)), (.double (FP.l2d q2)), (.double (0 : UInt64)), (.double (0 : UInt64))] (.double (0 : UInt64)) := Arv.set Ar29 q29 S29 N29' H29 G29 rfl W29 (1) rfl (Nat.le_of_ble_eq_true rfl)
    have K30 : Keep h0 h29 [] := K28.wr W29 (Or.inr sz_b25)
    have N29 := Fr.snoc X29 N27 g_b25
    refine Runs.by st29 ?_
    show Runs p e below _ (T29.setTop (mkF m 55 #[.val (.int p0), .val (.long q1), .second, .val (.long q2), .second, .val (.long q3), .second, .val (.long q4), .second, .val (.int (4 : Int32)), .val (.double (FP.l2d q1)), .second, .val (.double (FP.l2d q2)), .second, .val (.double (FP.l2d q3)), .second, .val (.double (FP.l2d q4)), .second, .val (.ref b25), .unset, .unset, .unset, .unset] []))
    refine Runs.by (fun _ hr => XS.iload X29.here hx rfl (hb hby at_55) rfl  hr) ?_
    show Runs p e below _ (T29.setTop (mkF m 57 #[.val (.int p0), .val (.long q1), .second, .val (.long q2), .second, .val (.long q3), .second, .val (.long q4), .second, .val (.int (4 : Int32)), .val (.double (FP.l2d q1)), .second, .val (.double (FP.l2d q2)), .second, .val (.double (FP.l2d q3)), .second, .val (.double (FP.l2d q4)), .second, .val (.ref b25), .unset, .unset, .unset, .unset] [(.int (4 : Int32))]))
    refine Runs.by (fun _ hr => XS.iconst X29.here hx rfl (hb hby at_57) hr) ?_
    show Runs p e below _ (T29.setTop (mkF m 58 #[.val (.int p0), .val (.long q1), .second, .val (.long q2), .second, .val (.long q3), .second, .val (.long q4), .second, .val (.int (4 : Int32)), .val (.double (FP.l2d q1)), .second, .val (.double (FP.l2d q2)), .second, .val (.double (FP.l2d q3)), .second, .val (.double (FP.l2d q4)), .second, .val (.ref b25), .unset, .unset, .unset, .unset] [(.int (2 : Int32)), (.int (4 : Int32))]))
    have hc58 : (2 : Int32) < (4 : Int32) := (by decide)
    refine Runs.by (fun _ hr => XS.icmpNo X29.here hx rfl (hb hby at_58) rfl (tlt hc58).2.2.2 hr) ?_
    show Runs p e below _ (T29.setTop (mkF m 61 #[.val (.int p0), .val (.long q1), .second, .val (.long q2), .second, .val (.long q3), .second, .val (.long q4), .second, .val (.int (4 : Int32)), .val (.double (FP.l2d q1)), .second, .val (.double (FP.l2d q2)), .second, .val (.double (FP.l2d q3)), .second, .val (.double (FP.l2d q4)), .second, .val (.ref b25), .unset, .unset, .unset, .unset] []))
    refine Runs.by (fun _ hr => XS.aload X29.here hx rfl (hb hby at_61) rfl rfl hr) ?_
    show Runs p e below _ (T29.setTop (mkF m 63 #[.val (.int p0), .val (.long q1), .second, .val (.long q2), .second, .val (.long q3), .second, .val (.long q4), .second, .val (.int (4 : Int32)), .val (.double (FP.l2d q1)), .second, .val (.double (FP.l2d q2)), .second, .val (.double (FP.l2d q3)), .second, .val (.double (FP.l2d q4)), .second, .val (.ref b25), .unset, .unset, .unset, .unset] [(.ref b25)]))
    refine Runs.by (fun _ hr => XS.iconst X29.here hx rfl (hb hby at_63) hr) ?_
    show Runs p e below _ (T29.setTop (mkF m 64 #[.val (.int p0), .val (.long q1), .second, .val (.long q2), .second, .val (.long q3), .second, .val (.long q4), .second, .val (.int (4 : Int32)), .val (.double (FP.l2d q1)), .second, .val (.double (FP.l2d q2)), .second, .val (.double (FP.l2d q3)), .second, .val (.double (FP.l2d q4)), .second, .val (.ref b25), .unset, .unset, .unset, .unset] [(.int (2 : Int32)), (.ref b25)]))
    refine Runs.by (fun _ hr => XS.dload X29.here hx rfl (hb hby at_64) rfl  hr) ?_
    show Runs p e below _ (T29.setTop (mkF m 66 #[.val (.int p0), .val (.long q1), .second, .val (.long q2), .second, .val (.long q3), .second, .val (.long q4), .second, .val (.int (4 : Int32)), .val (.double (FP.l2d q1)), .second, .val (.double (FP.l2d q2)), .second, .val (.double (FP.l2d q3)), .second, .val (.double (FP.l2d q4)), .second, .val (.ref b25), .unset, .unset, .unset, .unset] [(.double (FP.l2d q3)), (.int (2 : Int32)), (.ref b25)]))
    obtain ⟨cl31, Ar31, q31, S31, N31', H31, G31⟩ := id V29
    have hin31 : ¬ ((2 : Int32) < 0 ∨ cl31.slots.size ≤ ((2 : Int32)).toNatClampNeg) := inb_of S31 ⟨by decide, by decide⟩
    obtain ⟨T31, h31, X31, e31, W31, st31⟩ := stD X29 hx hZ e29 Ar31 (j := (2 : Int32)) hin31 (g := (mkF m 66 #[.val (.int p0), .val (.long q1), .second, .val (.long q2), .second, .val (.long q3), .second, .val (.long q4), .second, .val (.int (4 : Int32)), .val (.double (FP.l2d q1)), .second, .val (.double (FP.l2d q2)), .second, .val (.double (FP.l2d q3)), .second, .val (.double (FP.l2d q4)), .second, .val (.ref b25), .unset, .unset, .unset, .unset] [(.double (FP.l2d q3)), (.int (2 : Int32)), (.ref b25)])) rfl rfl (hb hby at_66)
    have V31 : Arv Z h31 b25 k25 .double (4 : Int32) [(.double (FP.l2d q1)), (.double (FP.l2d q2)), (.double (FP.l2d q3)), (.double (0 : UInt64))] (.double (0 : UInt64)) := Arv.set Ar31 q31 S31 N31' H31 G31 rfl W31 (2) rfl (Nat.le_of_ble_eq_true rfl)
    have K32 : Keep h0 h31 [] := K30.wr W31 (Or.inr sz_b25)
    have N31 := Fr.snoc X31 N29 g_b25
    refine Runs.by st31 ?_
    show Runs p e below _ (T31.setTop (mkF m 67 #[.val (.int p0), .val (.long q1), .second, .val (.long q2), .second, .val (.long q3), .second, .val (.long q4), .second, .val (.int (4 : Int32)), .val (.double (FP.l2d q1)), .second, .val (.double (FP.l2d q2)), .second, .val (.double (FP.l2d q3)), .second, .val (.double (FP.l2d q4)), .second, .val (.ref b25), .unset, .unset, .unset, .unset] []))
    refine Runs.by (fun _ hr => XS.iload X31.here hx rfl (hb hby at_67) rfl  hr) ?_
    show Runs p e below _ (T31.setTop (mkF m 69 #[.val (.int p0), .val (.long q1), .second, .val (.long q2), .second, .val (.long q3), .second, .val (.long q4), .second, .val (.int (4 : Int32)), .val (.double (FP.l2d q1)), .second, .val (.double (FP.l2d q2)), .second, .val (.double (FP.l2d q3)), .second, .val (.double (FP.l2d q4)), .second, .val (.ref b25), .unset, .unset, .unset, .unset] [(.int (4 : Int32))]))
    refine Runs.by (fun _ hr => XS.iconst X31.here hx rfl (hb hby at_69) hr) ?_
    show Runs p e below _ (T31.setTop (mkF m 70 #[.val (.int p0), .val (.long q1), .second, .val (.long q2), .second, .val (.long q3), .second, .val (.long q4), .second, .val (.int (4 : Int32)), .val (.double (FP.l2d q1)), .second, .val (.double (FP.l2d q2)), .second, .val (.double (FP.l2d q3)), .second, .val (.double (FP.l2d q4)), .second, .val (.ref b25), .unset, .unset, .unset, .unset] [(.int (3 : Int32)), (.int (4 : Int32))]))
    have hc70 : (3 : Int32) < (4 : Int32) := (by decide)
    refine Runs.by (fun _ hr => XS.icmpNo X31.here hx rfl (hb hby at_70) rfl (tlt hc70).2.2.2 hr) ?_
    show Runs p e below _ (T31.setTop (mkF m 73 #[.val (.int p0), .val (.long q1), .second, .val (.long q2), .second, .val (.long q3), .second, .val (.long q4), .second, .val (.int (4 : Int32)), .val (.double (FP.l2d q1)), .second, .val (.double (FP.l2d q2)), .second, .val (.double (FP.l2d q3)), .second, .val (.double (FP.l2d q4)), .second, .val (.ref b25), .unset, .unset, .unset, .unset] []))
    refine Runs.by (fun _ hr => XS.aload X31.here hx rfl (hb hby at_73) rfl rfl hr) ?_
    show Runs p e below _ (T31.setTop (mkF m 75 #[.val (.int p0), .val (.long q1), .second, .val (.long q2), .second, .val (.long q3), .second, .val (.long q4), .second, .val (.int (4 : Int32)), .val (.double (FP.l2d q1)), .second, .val (.double (FP.l2d q2)), .second, .val (.double (FP.l2d q3)), .second, .val (.double (FP.l2d q4)), .second, .val (.ref b25), .unset, .unset, .unset, .unset] [(.ref b25)]))
    refine Runs.by (fun _ hr => XS.iconst X31.here hx rfl (hb hby at_75) hr) ?_
    show Runs p e below _ (T31.setTop (mkF m 76 #[.val (.int p0), .val (.long q1), .second, .val (.long q2), .second, .val (.long q3), .second, .val (.long q4), .second, .val (.int (4 : Int32)), .val (.double (FP.l2d q1)), .second, .val (.double (FP.l2d q2)), .second, .val (.double (FP.l2d q3)), .second, .val (.double (FP.l2d q4)), .second, .val (.ref b25), .unset, .unset, .unset, .unset] [(.int (3 : Int32)), (.ref b25)]))
    refine Runs.by (fun _ hr => XS.dload X31.here hx rfl (hb hby at_76) rfl  hr) ?_
    show Runs p e below _ (T31.setTop (mkF m 78 #[.val (.int p0), .val (.long q1), .second, .val (.long q2), .second, .val (.long q3), .second, .val (.long q4), .second, .val (.int (4 : Int32)), .val (.double (FP.l2d q1)), .second, .val (.double (FP.l2d q2)), .second, .val (.double (FP.l2d q3)), .second, .val (.double (FP.l2d q4)), .second, .val (.ref b25), .unset, .unset, .unset, .unset] [(.double (FP.l2d q4)), (.int (3 : Int32)), (.ref b25)]))
    obtain ⟨cl33, Ar33, q33, S33, N33', H33, G33⟩ := id V31
    have hin33 : ¬ ((3 : Int32) < 0 ∨ cl33.slots.size ≤ ((3 : Int32)).toNatClampNeg) := inb_of S33 ⟨by decide, by decide⟩
    obtain ⟨T33, h33, X33, e33, W33, st33⟩ := stD X31 hx hZ e31 Ar33 (j := (3 : Int32)) hin33 (g := (mkF m 78 #[.val (.int p0), .val (.long q1), .second, .val (.long q2), .second, .val (.long q3), .second, .val (.long q4), .second, .val (.int (4 : Int32)), .val (.double (FP.l2d q1)), .second, .val (.double (FP.l2d q2)), .second, .val (.double (FP.l2d q3)), .second, .val (.double (FP.l2d q4)), .second, .val (.ref b25), .unset, .unset, .unset, .unset] [(.double (FP.l2d q4)), (.int (3 : Int32)), (.ref b25)])) rfl rfl (hb hby at_78)
    have V33 : Arv Z h33 b25 k25 .double (4 : Int32) [(.double (FP.l2d q1)), (.double (FP.l2d q2)), (.double (FP.l2d q3)), (.double (FP.l2d q4))] (.double (0 : UInt64)) := Arv.set Ar33 q33 S33 N33' H33 G33 rfl W33 (3) rfl (Nat.le_of_ble_eq_true rfl)
    have K34 : Keep h0 h33 [] := K32.wr W33 (Or.inr sz_b25)
    have N33 := Fr.snoc X33 N31 g_b25
    refine Runs.by st33 ?_
    show Runs p e below _ (T33.setTop (mkF m 79 #[.val (.int p0), .val (.long q1), .second, .val (.long q2), .second, .val (.long q3), .second, .val (.long q4), .second, .val (.int (4 : Int32)), .val (.double (FP.l2d q1)), .second, .val (.double (FP.l2d q2)), .second, .val (.double (FP.l2d q3)), .second, .val (.double (FP.l2d q4)), .second, .val (.ref b25), .unset, .unset, .unset, .unset] []))
    refine Runs.by (fun _ hr => XS.dconst0 X33.here hx rfl (hb hby at_79) rfl hr) ?_
    show Runs p e below _ (T33.setTop (mkF m 80 #[.val (.int p0), .val (.long q1), .second, .val (.long q2), .second, .val (.long q3), .second, .val (.long q4), .second, .val (.int (4 : Int32)), .val (.double (FP.l2d q1)), .second, .val (.double (FP.l2d q2)), .second, .val (.double (FP.l2d q3)), .second, .val (.double (FP.l2d q4)), .second, .val (.ref b25), .unset, .unset, .unset, .unset] [(.double FP.dconst0)]))
    refine Runs.by (fun _ hr => XS.dstore X33.here hx rfl (hb hby at_80) rfl (l' := #[.val (.int p0), .val (.long q1), .second, .val (.long q2), .second, .val (.long q3), .second, .val (.long q4), .second, .val (.int (4 : Int32)), .val (.double (FP.l2d q1)), .second, .val (.double (FP.l2d q2)), .second, .val (.double (FP.l2d q3)), .second, .val (.double (FP.l2d q4)), .second, .val (.ref b25), .val (.double FP.dconst0), .second, .unset, .unset]) rfl hr) ?_
    show Runs p e below _ (T33.setTop (mkF m 82 #[.val (.int p0), .val (.long q1), .second, .val (.long q2), .second, .val (.long q3), .second, .val (.long q4), .second, .val (.int (4 : Int32)), .val (.double (FP.l2d q1)), .second, .val (.double (FP.l2d q2)), .second, .val (.double (FP.l2d q3)), .second, .val (.double (FP.l2d q4)), .second, .val (.ref b25), .val (.double FP.dconst0), .second, .unset, .unset] []))
    refine Runs.by (fun _ hr => XS.iload X33.here hx rfl (hb hby at_82) rfl  hr) ?_
    show Runs p e below _ (T33.setTop (mkF m 84 #[.val (.int p0), .val (.long q1), .second, .val (.long q2), .second, .val (.long q3), .second, .val (.long q4), .second, .val (.int (4 : Int32)), .val (.double (FP.l2d q1)), .second, .val (.double (FP.l2d q2)), .second, .val (.double (FP.l2d q3)), .second, .val (.double (FP.l2d q4)), .second, .val (.ref b25), .val (.double FP.dconst0), .second, .unset, .unset] [(.int (4 : Int32))]))
    have hc84 : (0 : Int32) < (4 : Int32) := (by decide)
    refine Runs.by (fun _ hr => XS.ifNo X33.here hx rfl (hb hby at_84) rfl ((if0 _ _).trans (tlt hc84).2.2.2) hr) ?_
    show Runs p e below _ (T33.setTop (mkF m 87 #[.val (.int p0), .val (.long q1), .second, .val (.long q2), .second, .val (.long q3), .second, .val (.long q4), .second, .val (.int (4 : Int32)), .val (.double (FP.l2d q1)), .second, .val (.double (FP.l2d q2)), .second, .val (.double (FP.l2d q3)), .second, .val (.double (FP.l2d q4)), .second, .val (.ref b25), .val (.double FP.dconst0), .second, .unset, .unset] []))
    refine Runs.by (fun _ hr => XS.dload X33.here hx rfl (hb hby at_87) rfl  hr) ?_
    show Runs p e below _ (T33.setTop (mkF m 89 #[.val (.int p0), .val (.long q1), .second, .val (.long q2), .second, .val (.long q3), .second, .val (.long q4), .second, .val (.int (4 : Int32)), .val (.double (FP.l2d q1)), .second, .val (.double (FP.l2d q2)), .second, .val (.double (FP.l2d q3)), .second, .val (.double (FP.l2d q4)), .second, .val (.ref b25), .val (.double FP.dconst0), .second, .unset, .unset] [(.double FP.dconst0)]))
    refine Runs.by (fun _ hr => XS.dload X33.here hx rfl (hb hby at_89) rfl  hr) ?_
    show Runs p e below _ (T33.setTop (mkF m 91 #[.val (.int p0), .val (.long q1), .second, .val (.long q2), .second, .val (.long q3), .second, .val (.long q4), .second, .val (.int (4 : Int32)), .val (.double (FP.l2d q1)), .second, .val (.double (FP.l2d q2)), .second, .val (.double (FP.l2d q3)), .second, .val (.double (FP.l2d q4)), .second, .val (.ref b25), .val (.double FP.dconst0), .second, .unset, .unset] [(.double (FP.l2d q1)), (.double FP.dconst0)]))
    refine Runs.by (fun _ hr => XS.daddS X33.here hx rfl (hb hby at_91) rfl (Jvm.Free.Fl.dadd_out own_d0 (Jvm.Free.Fl.l2d_fin q1)) rfl hr) ?_
    show Runs p e below _ (T33.setTop (mkF m 92 #[.val (.int p0), .val (.long q1), .second, .val (.long q2), .second, .val (.long q3), .second, .val (.long q4), .second, .val (.int (4 : Int32)), .val (.double (FP.l2d q1)), .second, .val (.double (FP.l2d q2)), .second, .val (.double (FP.l2d q3)), .second, .val (.double (FP.l2d q4)), .second, .val (.ref b25), .val (.double FP.dconst0), .second, .unset, .unset] [(.double (FP.dadd FP.dconst0 (FP.l2d q1)))]))
    refine Runs.by (fun _ hr => XS.dstore X33.here hx rfl (hb hby at_92) rfl (l' := #[.val (.int p0), .val (.long q1), .second, .val (.long q2), .second, .val (.long q3), .second, .val (.long q4), .second, .val (.int (4 : Int32)), .val (.double (FP.l2d q1)), .second, .val (.double (FP.l2d q2)), .second, .val (.double (FP.l2d q3)), .second, .val (.double (FP.l2d q4)), .second, .val (.ref b25), .val (.double (FP.dadd FP.dconst0 (FP.l2d q1))), .second, .unset, .unset]) rfl hr) ?_
    show Runs p e below _ (T33.setTop (mkF m 94 #[.val (.int p0), .val (.long q1), .second, .val (.long q2), .second, .val (.long q3), .second, .val (.long q4), .second, .val (.int (4 : Int32)), .val (.double (FP.l2d q1)), .second, .val (.double (FP.l2d q2)), .second, .val (.double (FP.l2d q3)), .second, .val (.double (FP.l2d q4)), .second, .val (.ref b25), .val (.double (FP.dadd FP.dconst0 (FP.l2d q1))), .second, .unset, .unset] []))
    refine Runs.by (fun _ hr => XS.iload X33.here hx rfl (hb hby at_94) rfl  hr) ?_
    show Runs p e below _ (T33.setTop (mkF m 96 #[.val (.int p0), .val (.long q1), .second, .val (.long q2), .second, .val (.long q3), .second, .val (.long q4), .second, .val (.int (4 : Int32)), .val (.double (FP.l2d q1)), .second, .val (.double (FP.l2d q2)), .second, .val (.double (FP.l2d q3)), .second, .val (.double (FP.l2d q4)), .second, .val (.ref b25), .val (.double (FP.dadd FP.dconst0 (FP.l2d q1))), .second, .unset, .unset] [(.int (4 : Int32))]))
    refine Runs.by (fun _ hr => XS.iconst X33.here hx rfl (hb hby at_96) hr) ?_
    show Runs p e below _ (T33.setTop (mkF m 97 #[.val (.int p0), .val (.long q1), .second, .val (.long q2), .second, .val (.long q3), .second, .val (.long q4), .second, .val (.int (4 : Int32)), .val (.double (FP.l2d q1)), .second, .val (.double (FP.l2d q2)), .second, .val (.double (FP.l2d q3)), .second, .val (.double (FP.l2d q4)), .second, .val (.ref b25), .val (.double (FP.dadd FP.dconst0 (FP.l2d q1))), .second, .unset, .unset] [(.int (1 : Int32)), (.int (4 : Int32))]))
    have hc97 : (1 : Int32) < (4 : Int32) := (by decide)
    refine Runs.by (fun _ hr => XS.icmpNo X33.here hx rfl (hb hby at_97) rfl (tlt hc97).2.2.2 hr) ?_
    show Runs p e below _ (T33.setTop (mkF m 100 #[.val (.int p0), .val (.long q1), .second, .val (.long q2), .second, .val (.long q3), .second, .val (.long q4), .second, .val (.int (4 : Int32)), .val (.double (FP.l2d q1)), .second, .val (.double (FP.l2d q2)), .second, .val (.double (FP.l2d q3)), .second, .val (.double (FP.l2d q4)), .second, .val (.ref b25), .val (.double (FP.dadd FP.dconst0 (FP.l2d q1))), .second, .unset, .unset] []))
    refine Runs.by (fun _ hr => XS.dload X33.here hx rfl (hb hby at_100) rfl  hr) ?_
    show Runs p e below _ (T33.setTop (mkF m 102 #[.val (.int p0), .val (.long q1), .second, .val (.long q2), .second, .val (.long q3), .second, .val (.long q4), .second, .val (.int (4 : Int32)), .val (.double (FP.l2d q1)), .second, .val (.double (FP.l2d q2)), .second, .val (.double (FP.l2d q3)), .second, .val (.double (FP.l2d q4)), .second, .val (.ref b25), .val (.double (FP.dadd FP.dconst0 (FP.l2d q1))), .second, .unset, .unset] [(.double (FP.dadd FP.dconst0 (FP.l2d q1)))]))
    refine Runs.by (fun _ hr => XS.dload X33.here hx rfl (hb hby at_102) rfl  hr) ?_
    show Runs p e below _ (T33.setTop (mkF m 104 #[.val (.int p0), .val (.long q1), .second, .val (.long q2), .second, .val (.long q3), .second, .val (.long q4), .second, .val (.int (4 : Int32)), .val (.double (FP.l2d q1)), .second, .val (.double (FP.l2d q2)), .second, .val (.double (FP.l2d q3)), .second, .val (.double (FP.l2d q4)), .second, .val (.ref b25), .val (.double (FP.dadd FP.dconst0 (FP.l2d q1))), .second, .unset, .unset] [(.double (FP.l2d q2)), (.double (FP.dadd FP.dconst0 (FP.l2d q1)))]))
    refine Runs.by (fun _ hr => XS.daddS X33.here hx rfl (hb hby at_104) rfl (Jvm.Free.Fl.dadd_out (Jvm.Free.Fl.dadd_out own_d0 (Jvm.Free.Fl.l2d_fin q1)) (Jvm.Free.Fl.l2d_fin q2)) rfl hr) ?_
    show Runs p e below _ (T33.setTop (mkF m 105 #[.val (.int p0), .val (.long q1), .second, .val (.long q2), .second, .val (.long q3), .second, .val (.long q4), .second, .val (.int (4 : Int32)), .val (.double (FP.l2d q1)), .second, .val (.double (FP.l2d q2)), .second, .val (.double (FP.l2d q3)), .second, .val (.double (FP.l2d q4)), .second, .val (.ref b25), .val (.double (FP.dadd FP.dconst0 (FP.l2d q1))), .second, .unset, .unset] [(.double (FP.dadd (FP.dadd FP.dconst0 (FP.l2d q1)) (FP.l2d q2)))]))
    refine Runs.by (fun _ hr => XS.dstore X33.here hx rfl (hb hby at_105) rfl (l' := #[.val (.int p0), .val (.long q1), .second, .val (.long q2), .second, .val (.long q3), .second, .val (.long q4), .second, .val (.int (4 : Int32)), .val (.double (FP.l2d q1)), .second, .val (.double (FP.l2d q2)), .second, .val (.double (FP.l2d q3)), .second, .val (.double (FP.l2d q4)), .second, .val (.ref b25), .val (.double (FP.dadd (FP.dadd FP.dconst0 (FP.l2d q1)) (FP.l2d q2))), .second, .unset, .unset]) rfl hr) ?_
    show Runs p e below _ (T33.setTop (mkF m 107 #[.val (.int p0), .val (.long q1), .second, .val (.long q2), .second, .val (.long q3), .second, .val (.long q4), .second, .val (.int (4 : Int32)), .val (.double (FP.l2d q1)), .second, .val (.double (FP.l2d q2)), .second, .val (.double (FP.l2d q3)), .second, .val (.double (FP.l2d q4)), .second, .val (.ref b25), .val (.double (FP.dadd (FP.dadd FP.dconst0 (FP.l2d q1)) (FP.l2d q2))), .second, .unset, .unset] []))
    refine Runs.by (fun _ hr => XS.iload X33.here hx rfl (hb hby at_107) rfl  hr) ?_
    show Runs p e below _ (T33.setTop (mkF m 109 #[.val (.int p0), .val (.long q1), .second, .val (.long q2), .second, .val (.long q3), .second, .val (.long q4), .second, .val (.int (4 : Int32)), .val (.double (FP.l2d q1)), .second, .val (.double (FP.l2d q2)), .second, .val (.double (FP.l2d q3)), .second, .val (.double (FP.l2d q4)), .second, .val (.ref b25), .val (.double (FP.dadd (FP.dadd FP.dconst0 (FP.l2d q1)) (FP.l2d q2))), .second, .unset, .unset] [(.int (4 : Int32))]))
    refine Runs.by (fun _ hr => XS.iconst X33.here hx rfl (hb hby at_109) hr) ?_
    show Runs p e below _ (T33.setTop (mkF m 110 #[.val (.int p0), .val (.long q1), .second, .val (.long q2), .second, .val (.long q3), .second, .val (.long q4), .second, .val (.int (4 : Int32)), .val (.double (FP.l2d q1)), .second, .val (.double (FP.l2d q2)), .second, .val (.double (FP.l2d q3)), .second, .val (.double (FP.l2d q4)), .second, .val (.ref b25), .val (.double (FP.dadd (FP.dadd FP.dconst0 (FP.l2d q1)) (FP.l2d q2))), .second, .unset, .unset] [(.int (2 : Int32)), (.int (4 : Int32))]))
    have hc110 : (2 : Int32) < (4 : Int32) := (by decide)
    refine Runs.by (fun _ hr => XS.icmpNo X33.here hx rfl (hb hby at_110) rfl (tlt hc110).2.2.2 hr) ?_
    show Runs p e below _ (T33.setTop (mkF m 113 #[.val (.int p0), .val (.long q1), .second, .val (.long q2), .second, .val (.long q3), .second, .val (.long q4), .second, .val (.int (4 : Int32)), .val (.double (FP.l2d q1)), .second, .val (.double (FP.l2d q2)), .second, .val (.double (FP.l2d q3)), .second, .val (.double (FP.l2d q4)), .second, .val (.ref b25), .val (.double (FP.dadd (FP.dadd FP.dconst0 (FP.l2d q1)) (FP.l2d q2))), .second, .unset, .unset] []))
    refine Runs.by (fun _ hr => XS.dload X33.here hx rfl (hb hby at_113) rfl  hr) ?_
    show Runs p e below _ (T33.setTop (mkF m 115 #[.val (.int p0), .val (.long q1), .second, .val (.long q2), .second, .val (.long q3), .second, .val (.long q4), .second, .val (.int (4 : Int32)), .val (.double (FP.l2d q1)), .second, .val (.double (FP.l2d q2)), .second, .val (.double (FP.l2d q3)), .second, .val (.double (FP.l2d q4)), .second, .val (.ref b25), .val (.double (FP.dadd (FP.dadd FP.dconst0 (FP.l2d q1)) (FP.l2d q2))), .second, .unset, .unset] [(.double (FP.dadd (FP.dadd FP.dconst0 (FP.l2d q1)) (FP.l2d q2)))]))
    refine Runs.by (fun _ hr => XS.dload X33.here hx rfl (hb hby at_115) rfl  hr) ?_
    show Runs p e below _ (T33.setTop (mkF m 117 #[.val (.int p0), .val (.long q1), .second, .val (.long q2), .second, .val (.long q3), .second, .val (.long q4), .second, .val (.int (4 : Int32)), .val (.double (FP.l2d q1)), .second, .val (.double (FP.l2d q2)), .second, .val (.double (FP.l2d q3)), .second, .val (.double (FP.l2d q4)), .second, .val (.ref b25), .val (.double (FP.dadd (FP.dadd FP.dconst0 (FP.l2d q1)) (FP.l2d q2))), .second, .unset, .unset] [(.double (FP.l2d q3)), (.double (FP.dadd (FP.dadd FP.dconst0 (FP.l2d q1)) (FP.l2d q2)))]))
    refine Runs.by (fun _ hr => XS.daddS X33.here hx rfl (hb hby at_117) rfl (Jvm.Free.Fl.dadd_out (Jvm.Free.Fl.dadd_out (Jvm.Free.Fl.dadd_out own_d0 (Jvm.Free.Fl.l2d_fin q1)) (Jvm.Free.Fl.l2d_fin q2)) (Jvm.Free.Fl.l2d_fin q3)) rfl hr) ?_
    show Runs p e below _ (T33.setTop (mkF m 118 #[.val (.int p0), .val (.long q1), .second, .val (.long q2), .second, .val (.long q3), .second, .val (.long q4), .second, .val (.int (4 : Int32)), .val (.double (FP.l2d q1)), .second, .val (.double (FP.l2d q2)), .second, .val (.double (FP.l2d q3)), .second, .val (.double (FP.l2d q4)), .second, .val (.ref b25), .val (.double (FP.dadd (FP.dadd FP.dconst0 (FP.l2d q1)) (FP.l2d q2))), .second, .unset, .unset] [(.double (FP.dadd (FP.dadd (FP.dadd FP.dconst0 (FP.l2d q1)) (FP.l2d q2)) (FP.l2d q3)))]))
    refine Runs.by (fun _ hr => XS.dstore X33.here hx rfl (hb hby at_118) rfl (l' := #[.val (.int p0), .val (.long q1), .second, .val (.long q2), .second, .val (.long q3), .second, .val (.long q4), .second, .val (.int (4 : Int32)), .val (.double (FP.l2d q1)), .second, .val (.double (FP.l2d q2)), .second, .val (.double (FP.l2d q3)), .second, .val (.double (FP.l2d q4)), .second, .val (.ref b25), .val (.double (FP.dadd (FP.dadd (FP.dadd FP.dconst0 (FP.l2d q1)) (FP.l2d q2)) (FP.l2d q3))), .second, .unset, .unset]) rfl hr) ?_
    show Runs p e below _ (T33.setTop (mkF m 120 #[.val (.int p0), .val (.long q1), .second, .val (.long q2), .second, .val (.long q3), .second, .val (.long q4), .second, .val (.int (4 : Int32)), .val (.double (FP.l2d q1)), .second, .val (.double (FP.l2d q2)), .second, .val (.double (FP.l2d q3)), .second, .val (.double (FP.l2d q4)), .second, .val (.ref b25), .val (.double (FP.dadd (FP.dadd (FP.dadd FP.dconst0 (FP.l2d q1)) (FP.l2d q2)) (FP.l2d q3))), .second, .unset, .unset] []))
    refine Runs.by (fun _ hr => XS.iload X33.here hx rfl (hb hby at_120) rfl  hr) ?_
    show Runs p e below _ (T33.setTop (mkF m 122 #[.val (.int p0), .val (.long q1), .second, .val (.long q2), .second, .val (.long q3), .second, .val (.long q4), .second, .val (.int (4 : Int32)), .val (.double (FP.l2d q1)), .second, .val (.double (FP.l2d q2)), .second, .val (.double (FP.l2d q3)), .second, .val (.double (FP.l2d q4)), .second, .val (.ref b25), .val (.double (FP.dadd (FP.dadd (FP.dadd FP.dconst0 (FP.l2d q1)) (FP.l2d q2)) (FP.l2d q3))), .second, .unset, .unset] [(.int (4 : Int32))]))
    refine Runs.by (fun _ hr => XS.iconst X33.here hx rfl (hb hby at_122) hr) ?_
    show Runs p e below _ (T33.setTop (mkF m 123 #[.val (.int p0), .val (.long q1), .second, .val (.long q2), .second, .val (.long q3), .second, .val (.long q4), .second, .val (.int (4 : Int32)), .val (.double (FP.l2d q1)), .second, .val (.double (FP.l2d q2)), .second, .val (.double (FP.l2d q3)), .second, .val (.double (FP.l2d q4)), .second, .val (.ref b25), .val (.double (FP.dadd (FP.dadd (FP.dadd FP.dconst0 (FP.l2d q1)) (FP.l2d q2)) (FP.l2d q3))), .second, .unset, .unset] [(.int (3 : Int32)), (.int (4 : Int32))]))
    have hc123 : (3 : Int32) < (4 : Int32) := (by decide)
    refine Runs.by (fun _ hr => XS.icmpNo X33.here hx rfl (hb hby at_123) rfl (tlt hc123).2.2.2 hr) ?_
    show Runs p e below _ (T33.setTop (mkF m 126 #[.val (.int p0), .val (.long q1), .second, .val (.long q2), .second, .val (.long q3), .second, .val (.long q4), .second, .val (.int (4 : Int32)), .val (.double (FP.l2d q1)), .second, .val (.double (FP.l2d q2)), .second, .val (.double (FP.l2d q3)), .second, .val (.double (FP.l2d q4)), .second, .val (.ref b25), .val (.double (FP.dadd (FP.dadd (FP.dadd FP.dconst0 (FP.l2d q1)) (FP.l2d q2)) (FP.l2d q3))), .second, .unset, .unset] []))
    refine Runs.by (fun _ hr => XS.dload X33.here hx rfl (hb hby at_126) rfl  hr) ?_
    show Runs p e below _ (T33.setTop (mkF m 128 #[.val (.int p0), .val (.long q1), .second, .val (.long q2), .second, .val (.long q3), .second, .val (.long q4), .second, .val (.int (4 : Int32)), .val (.double (FP.l2d q1)), .second, .val (.double (FP.l2d q2)), .second, .val (.double (FP.l2d q3)), .second, .val (.double (FP.l2d q4)), .second, .val (.ref b25), .val (.double (FP.dadd (FP.dadd (FP.dadd FP.dconst0 (FP.l2d q1)) (FP.l2d q2)) (FP.l2d q3))), .second, .unset, .unset] [(.double (FP.dadd (FP.dadd (FP.dadd FP.dconst0 (FP.l2d q1)) (FP.l2d q2)) (FP.l2d q3)))]))
    refine Runs.by (fun _ hr => XS.dload X33.here hx rfl (hb hby at_128) rfl  hr) ?_
    show Runs p e below _ (T33.setTop (mkF m 130 #[.val (.int p0), .val (.long q1), .second, .val (.long q2), .second, .val (.long q3), .second, .val (.long q4), .second, .val (.int (4 : Int32)), .val (.double (FP.l2d q1)), .second, .val (.double (FP.l2d q2)), .second, .val (.double (FP.l2d q3)), .second, .val (.double (FP.l2d q4)), .second, .val (.ref b25), .val (.double (FP.dadd (FP.dadd (FP.dadd FP.dconst0 (FP.l2d q1)) (FP.l2d q2)) (FP.l2d q3))), .second, .unset, .unset] [(.double (FP.l2d q4)), (.double (FP.dadd (FP.dadd (FP.dadd FP.dconst0 (FP.l2d q1)) (FP.l2d q2)) (FP.l2d q3)))]))
    refine Runs.by (fun _ hr => XS.daddS X33.here hx rfl (hb hby at_130) rfl (Jvm.Free.Fl.dadd_out (Jvm.Free.Fl.dadd_out (Jvm.Free.Fl.dadd_out (Jvm.Free.Fl.dadd_out own_d0 (Jvm.Free.Fl.l2d_fin q1)) (Jvm.Free.Fl.l2d_fin q2)) (Jvm.Free.Fl.l2d_fin q3)) (Jvm.Free.Fl.l2d_fin q4)) rfl hr) ?_
    show Runs p e below _ (T33.setTop (mkF m 131 #[.val (.int p0), .val (.long q1), .second, .val (.long q2), .second, .val (.long q3), .second, .val (.long q4), .second, .val (.int (4 : Int32)), .val (.double (FP.l2d q1)), .second, .val (.double (FP.l2d q2)), .second, .val (.double (FP.l2d q3)), .second, .val (.double (FP.l2d q4)), .second, .val (.ref b25), .val (.double (FP.dadd (FP.dadd (FP.dadd FP.dconst0 (FP.l2d q1)) (FP.l2d q2)) (FP.l2d q3))), .second, .unset, .unset] [(.double (FP.dadd (FP.dadd (FP.dadd (FP.dadd FP.dconst0 (FP.l2d q1)) (FP.l2d q2)) (FP.l2d q3)) (FP.l2d q4)))]))
    refine Runs.by (fun _ hr => XS.dstore X33.here hx rfl (hb hby at_131) rfl (l' := #[.val (.int p0), .val (.long q1), .second, .val (.long q2), .second, .val (.long q3), .second, .val (.long q4), .second, .val (.int (4 : Int32)), .val (.double (FP.l2d q1)), .second, .val (.double (FP.l2d q2)), .second, .val (.double (FP.l2d q3)), .second, .val (.double (FP.l2d q4)), .second, .val (.ref b25), .val (.double (FP.dadd (FP.dadd (FP.dadd (FP.dadd FP.dconst0 (FP.l2d q1)) (FP.l2d q2)) (FP.l2d q3)) (FP.l2d q4))), .second, .unset, .unset]) rfl hr) ?_
    show Runs p e below _ (T33.setTop (mkF m 133 #[.val (.int p0), .val (.long q1), .second, .val (.long q2), .second, .val (.long q3), .second, .val (.long q4), .second, .val (.int (4 : Int32)), .val (.double (FP.l2d q1)), .second, .val (.double (FP.l2d q2)), .second, .val (.double (FP.l2d q3)), .second, .val (.double (FP.l2d q4)), .second, .val (.ref b25), .val (.double (FP.dadd (FP.dadd (FP.dadd (FP.dadd FP.dconst0 (FP.l2d q1)) (FP.l2d q2)) (FP.l2d q3)) (FP.l2d q4))), .second, .unset, .unset] []))
    refine Runs.by (fun _ hr => XS.aload X33.here hx rfl (hb hby at_133) rfl rfl hr) ?_
    show Runs p e below _ (T33.setTop (mkF m 135 #[.val (.int p0), .val (.long q1), .second, .val (.long q2), .second, .val (.long q3), .second, .val (.long q4), .second, .val (.int (4 : Int32)), .val (.double (FP.l2d q1)), .second, .val (.double (FP.l2d q2)), .second, .val (.double (FP.l2d q3)), .second, .val (.double (FP.l2d q4)), .second, .val (.ref b25), .val (.double (FP.dadd (FP.dadd (FP.dadd (FP.dadd FP.dconst0 (FP.l2d q1)) (FP.l2d q2)) (FP.l2d q3)) (FP.l2d q4))), .second, .unset, .unset] [(.ref b25)]))
    obtain ⟨_, _, ⟨T35, L35, k35, n35⟩, -, X35, ⟨Lc35, hQ35, l35, y35, z35⟩, st35⟩ := Jvm.LawKit.callS X33 hx (y := (⟨"com/example/threshold/threshold/engine/Bm25", "sum", "([D)D"⟩ : MethodName)) hown (mvT hZ (hw _ (List.mem_of_getElem? (i := 2) rfl))) (mvT hZ (hw _ (List.mem_of_getElem? (i := 3) rfl))) (mvT hZ (hw _ (List.mem_of_getElem? (i := 4) rfl))) (mvT hZ (hw _ (List.mem_of_getElem? (i := 5) rfl))) (by decide) (backOf (W := 0) (rm1_4 l Z a0 hw [] b25 k25 (FP.l2d q1) (FP.l2d q2) (FP.l2d q3) (FP.l2d q4) h33 n0 (Nat.le_trans Z0 K34.1) V33 (Jvm.Free.Fl.l2d_fin q1) (Jvm.Free.Fl.l2d_fin q2) (Jvm.Free.Fl.l2d_fin q3) (Jvm.Free.Fl.l2d_fin q4)) hZ (hw _ (List.mem_of_getElem? (i := 5) rfl)) (hw _ (List.mem_of_getElem? (i := 4) rfl)) (by decide) (by decide)) (g := (mkF m 135 #[.val (.int p0), .val (.long q1), .second, .val (.long q2), .second, .val (.long q3), .second, .val (.long q4), .second, .val (.int (4 : Int32)), .val (.double (FP.l2d q1)), .second, .val (.double (FP.l2d q2)), .second, .val (.double (FP.l2d q3)), .second, .val (.double (FP.l2d q4)), .second, .val (.ref b25), .val (.double (FP.dadd (FP.dadd (FP.dadd (FP.dadd FP.dconst0 (FP.l2d q1)) (FP.l2d q2)) (FP.l2d q3)) (FP.l2d q4))), .second, .unset, .unset] [(.ref b25)])) rfl (by rw [hml]; rfl) (argsL := [(.ref b25)]) (rest := []) (lenOf pd_0 rfl) rfl (by show 2 * 0 + _ ≤ _; exact Nat.le_of_eq rfl) (hb hby at_135) (fun _ _ => ⟨rfl, e33, (by decide : 1 + 0 ≤ _), (by decide : 4 + 0 ≤ _)⟩)
    dsimp only [Pt.U, Pt.locs, Pt.cells, Pt.slots] at X35 l35 y35 z35 st35 hQ35
    subst l35 y35 z35
    obtain ⟨rfl, Nq35, eq35⟩ := hQ35
    have N35 := Fr.app N33 Nq35
    refine Runs.by (fun t hr => st35 t hr) ?_
    show Runs p e below _ (T35.setTop (mkF m 138 #[.val (.int p0), .val (.long q1), .second, .val (.long q2), .second, .val (.long q3), .second, .val (.long q4), .second, .val (.int (4 : Int32)), .val (.double (FP.l2d q1)), .second, .val (.double (FP.l2d q2)), .second, .val (.double (FP.l2d q3)), .second, .val (.double (FP.l2d q4)), .second, .val (.ref b25), .val (.double (FP.dadd (FP.dadd (FP.dadd (FP.dadd FP.dconst0 (FP.l2d q1)) (FP.l2d q2)) (FP.l2d q3)) (FP.l2d q4))), .second, .unset, .unset] [(.double (FP.dadd (FP.dadd (FP.dadd (FP.dadd FP.dconst0 (FP.l2d q1)) (FP.l2d q2)) (FP.l2d q3)) (FP.l2d q4)))]))
    refine Runs.by (fun _ hr => XS.dstore X35.here hx rfl (hb hby at_138) rfl (l' := #[.val (.int p0), .val (.long q1), .second, .val (.long q2), .second, .val (.long q3), .second, .val (.long q4), .second, .val (.int (4 : Int32)), .val (.double (FP.l2d q1)), .second, .val (.double (FP.l2d q2)), .second, .val (.double (FP.l2d q3)), .second, .val (.double (FP.l2d q4)), .second, .val (.ref b25), .val (.double (FP.dadd (FP.dadd (FP.dadd (FP.dadd FP.dconst0 (FP.l2d q1)) (FP.l2d q2)) (FP.l2d q3)) (FP.l2d q4))), .second, .val (.double (FP.dadd (FP.dadd (FP.dadd (FP.dadd FP.dconst0 (FP.l2d q1)) (FP.l2d q2)) (FP.l2d q3)) (FP.l2d q4))), .second]) rfl hr) ?_
    show Runs p e below _ (T35.setTop (mkF m 140 #[.val (.int p0), .val (.long q1), .second, .val (.long q2), .second, .val (.long q3), .second, .val (.long q4), .second, .val (.int (4 : Int32)), .val (.double (FP.l2d q1)), .second, .val (.double (FP.l2d q2)), .second, .val (.double (FP.l2d q3)), .second, .val (.double (FP.l2d q4)), .second, .val (.ref b25), .val (.double (FP.dadd (FP.dadd (FP.dadd (FP.dadd FP.dconst0 (FP.l2d q1)) (FP.l2d q2)) (FP.l2d q3)) (FP.l2d q4))), .second, .val (.double (FP.dadd (FP.dadd (FP.dadd (FP.dadd FP.dconst0 (FP.l2d q1)) (FP.l2d q2)) (FP.l2d q3)) (FP.l2d q4))), .second] []))
    refine Runs.by (fun _ hr => XS.dload X35.here hx rfl (hb hby at_140) rfl  hr) ?_
    show Runs p e below _ (T35.setTop (mkF m 142 #[.val (.int p0), .val (.long q1), .second, .val (.long q2), .second, .val (.long q3), .second, .val (.long q4), .second, .val (.int (4 : Int32)), .val (.double (FP.l2d q1)), .second, .val (.double (FP.l2d q2)), .second, .val (.double (FP.l2d q3)), .second, .val (.double (FP.l2d q4)), .second, .val (.ref b25), .val (.double (FP.dadd (FP.dadd (FP.dadd (FP.dadd FP.dconst0 (FP.l2d q1)) (FP.l2d q2)) (FP.l2d q3)) (FP.l2d q4))), .second, .val (.double (FP.dadd (FP.dadd (FP.dadd (FP.dadd FP.dconst0 (FP.l2d q1)) (FP.l2d q2)) (FP.l2d q3)) (FP.l2d q4))), .second] [(.double (FP.dadd (FP.dadd (FP.dadd (FP.dadd FP.dconst0 (FP.l2d q1)) (FP.l2d q2)) (FP.l2d q3)) (FP.l2d q4)))]))
    refine Runs.by (fun _ hr => XS.dload X35.here hx rfl (hb hby at_142) rfl  hr) ?_
    show Runs p e below _ (T35.setTop (mkF m 144 #[.val (.int p0), .val (.long q1), .second, .val (.long q2), .second, .val (.long q3), .second, .val (.long q4), .second, .val (.int (4 : Int32)), .val (.double (FP.l2d q1)), .second, .val (.double (FP.l2d q2)), .second, .val (.double (FP.l2d q3)), .second, .val (.double (FP.l2d q4)), .second, .val (.ref b25), .val (.double (FP.dadd (FP.dadd (FP.dadd (FP.dadd FP.dconst0 (FP.l2d q1)) (FP.l2d q2)) (FP.l2d q3)) (FP.l2d q4))), .second, .val (.double (FP.dadd (FP.dadd (FP.dadd (FP.dadd FP.dconst0 (FP.l2d q1)) (FP.l2d q2)) (FP.l2d q3)) (FP.l2d q4))), .second] [(.double (FP.dadd (FP.dadd (FP.dadd (FP.dadd FP.dconst0 (FP.l2d q1)) (FP.l2d q2)) (FP.l2d q3)) (FP.l2d q4))), (.double (FP.dadd (FP.dadd (FP.dadd (FP.dadd FP.dconst0 (FP.l2d q1)) (FP.l2d q2)) (FP.l2d q3)) (FP.l2d q4)))]))
    refine Runs.by (fun _ hr => XS.dcmpS X35.here hx rfl (hb hby at_144) rfl (dcmpV_self (Jvm.Free.Fl.dadd_out (Jvm.Free.Fl.dadd_out (Jvm.Free.Fl.dadd_out (Jvm.Free.Fl.dadd_out own_d0 (Jvm.Free.Fl.l2d_fin q1)) (Jvm.Free.Fl.l2d_fin q2)) (Jvm.Free.Fl.l2d_fin q3)) (Jvm.Free.Fl.l2d_fin q4)) _) hr) ?_
    show Runs p e below _ (T35.setTop (mkF m 145 #[.val (.int p0), .val (.long q1), .second, .val (.long q2), .second, .val (.long q3), .second, .val (.long q4), .second, .val (.int (4 : Int32)), .val (.double (FP.l2d q1)), .second, .val (.double (FP.l2d q2)), .second, .val (.double (FP.l2d q3)), .second, .val (.double (FP.l2d q4)), .second, .val (.ref b25), .val (.double (FP.dadd (FP.dadd (FP.dadd (FP.dadd FP.dconst0 (FP.l2d q1)) (FP.l2d q2)) (FP.l2d q3)) (FP.l2d q4))), .second, .val (.double (FP.dadd (FP.dadd (FP.dadd (FP.dadd FP.dconst0 (FP.l2d q1)) (FP.l2d q2)) (FP.l2d q3)) (FP.l2d q4))), .second] [(.int (0 : Int32))]))
    have hc145 : (0 : Int32) = (0 : Int32) := (by decide)
    refine Runs.by (fun _ hr => XS.ifNo X35.here hx rfl (hb hby at_145) rfl ((if0 _ _).trans (teq hc145).2) hr) ?_
    show Runs p e below _ (T35.setTop (mkF m 148 #[.val (.int p0), .val (.long q1), .second, .val (.long q2), .second, .val (.long q3), .second, .val (.long q4), .second, .val (.int (4 : Int32)), .val (.double (FP.l2d q1)), .second, .val (.double (FP.l2d q2)), .second, .val (.double (FP.l2d q3)), .second, .val (.double (FP.l2d q4)), .second, .val (.ref b25), .val (.double (FP.dadd (FP.dadd (FP.dadd (FP.dadd FP.dconst0 (FP.l2d q1)) (FP.l2d q2)) (FP.l2d q3)) (FP.l2d q4))), .second, .val (.double (FP.dadd (FP.dadd (FP.dadd (FP.dadd FP.dconst0 (FP.l2d q1)) (FP.l2d q2)) (FP.l2d q3)) (FP.l2d q4))), .second] []))
    refine Runs.by (fun _ hr => XS.iconst X35.here hx rfl (hb hby at_148) hr) ?_
    show Runs p e below _ (T35.setTop (mkF m 149 #[.val (.int p0), .val (.long q1), .second, .val (.long q2), .second, .val (.long q3), .second, .val (.long q4), .second, .val (.int (4 : Int32)), .val (.double (FP.l2d q1)), .second, .val (.double (FP.l2d q2)), .second, .val (.double (FP.l2d q3)), .second, .val (.double (FP.l2d q4)), .second, .val (.ref b25), .val (.double (FP.dadd (FP.dadd (FP.dadd (FP.dadd FP.dconst0 (FP.l2d q1)) (FP.l2d q2)) (FP.l2d q3)) (FP.l2d q4))), .second, .val (.double (FP.dadd (FP.dadd (FP.dadd (FP.dadd FP.dconst0 (FP.l2d q1)) (FP.l2d q2)) (FP.l2d q3)) (FP.l2d q4))), .second] [(.int (1 : Int32))]))
    refine Runs.by (fun _ hr => XS.goto X35.here hx rfl (pc0 := 149) (pc' := 153) rfl (hb hby at_149) (by decide) (by decide) hr) ?_
    show Runs p e below _ (T35.setTop (mkF m 153 #[.val (.int p0), .val (.long q1), .second, .val (.long q2), .second, .val (.long q3), .second, .val (.long q4), .second, .val (.int (4 : Int32)), .val (.double (FP.l2d q1)), .second, .val (.double (FP.l2d q2)), .second, .val (.double (FP.l2d q3)), .second, .val (.double (FP.l2d q4)), .second, .val (.ref b25), .val (.double (FP.dadd (FP.dadd (FP.dadd (FP.dadd FP.dconst0 (FP.l2d q1)) (FP.l2d q2)) (FP.l2d q3)) (FP.l2d q4))), .second, .val (.double (FP.dadd (FP.dadd (FP.dadd (FP.dadd FP.dconst0 (FP.l2d q1)) (FP.l2d q2)) (FP.l2d q3)) (FP.l2d q4))), .second] [(.int (1 : Int32))]))
    refine Runs.ret X35 hx hrt hlk (Or.inl ⟨rfl, by simp, _, rfl⟩) (by rfl) (hb hby at_153) (by decide) (by decide) ?_
    rw [eq35]
    exact ⟨rfl, N35⟩
set_option maxRecDepth 65536 in
set_option maxHeartbeats 40000000 in
theorem comes_1 {Post : Tables → Env → Array Value → State → Outcome → State → Prop} (hpost : ∀ tb e args s v u, (limb_1_1.after args s (.returned v) u = true ∧ limb_1_2.after args s (.returned v) u = true ∧ True) → FrameEnd s (.returned v) u (Jvm.fieldLocs frame_1_writes args s ++ Jvm.arrayLocs frame_1_arrays args s ++ Jvm.staticLocs frame_1_statics s) 16 128 → Post tb e args s (.returned v) u) :
    ArmFor flags0 classFile x code maxLocals ret World_1 tables_1 room_1 Calls_1 rest_1 Pre_1 Post := by
  intro l hfl _ _ p e ha hc hk s m args below hf hA hF happ hP
  obtain ⟨hcalls, hrest, hpre⟩ := hP
  obtain ⟨-, -, -, hnamed, -, -, -, hat⟩ := (Spec.applies_iff hf).mp happ
  obtain ⟨hg, hn⟩ := and_e (Cond.before_iff.mp (show (Jvm.Cond.and given_1 narrow_1).before args s = true from hpre))
  obtain ⟨g1, g2⟩ := and_e hg
  obtain ⟨g3, g4⟩ := and_e g2
  obtain ⟨g5, g6⟩ := and_e g4
  obtain ⟨g7, g8⟩ := and_e g6
  obtain ⟨g9, g10⟩ := and_e g8
  obtain ⟨w0, w1, w2, w3, w4, rfl⟩ : ∃ w0 w1 w2 w3 w4 : Value, args = #[w0, w1, w2, w3, w4] := by
    have hs : args.size = 5 := by simpa [Cond.value, given_1] using g1
    obtain ⟨L⟩ := args
    match L, hs with
    | [w0, w1, w2, w3, w4], _ => exact ⟨w0, w1, w2, w3, w4, rfl⟩
  have hw := fun d (hd : d ∈ tables_1) => atoms_spec (ws := Jvm.Cond.code x code maxLocals ret :: tables_1) hat d (List.mem_cons_of_mem _ hd)
  have hfit : Fit s := fun {y c} hc i hi => by
    obtain ⟨ha, rfl⟩ := Array.getElem?_eq_some_iff.mp hc
    have q := List.all_eq_true.mp ((Array.all_eq_true_iff_forall_mem.mp hF) _ (Array.getElem_mem ha)) i (List.mem_range.mpr hi)
    simpa [Array.getElem?_eq_getElem hi] using q
  obtain ⟨i0, ei0⟩ := is_v g3
  obtain rfl : w0 = (.int i0) := Option.some.inj ei0
  obtain ⟨i1, ei1⟩ := isL_v g5
  obtain rfl : w1 = (.long i1) := Option.some.inj ei1
  obtain ⟨i2, ei2⟩ := isL_v g7
  obtain rfl : w2 = (.long i2) := Option.some.inj ei2
  obtain ⟨i3, ei3⟩ := isL_v g9
  obtain rfl : w3 = (.long i3) := Option.some.inj ei3
  obtain ⟨i4, ei4⟩ := isL_v g10
  obtain rfl : w4 = (.long i4) := Option.some.inj ei4
  obtain ⟨n, o, h1, h2, h3, _, L, rfl, ⟨rfl, N⟩, hq⟩ := rm0 l s _ hw tables_1 i0 i1 i2 i3 i4 s.heap s.heap.size (Nat.le_refl _)  p e ha hc hk s m _ below hf ((Spec.applies_iff_loose hf).mp happ).1 ⟨rfl, State.Warmed39.refl s, rfl⟩ trivial
  refine ⟨n, _, h1, h2, h3, hpost _ _ _ _ _ _ ⟨Cond.after_iff.mpr rfl, Cond.after_iff.mpr (eq_i res_at (Term.int_eval (1)) rfl), trivial⟩ ⟨hq.1, hq.2.1, (hq.2.2.sift fun y hy => Or.inr (N y hy)).mono (by decide) (by decide)⟩⟩
theorem main_1_1 : Claimed_1_1 := comes_1 fun _ _ _ _ _ _ h hF => ⟨h.1, hF⟩
theorem main_1_2 : Claimed_1_2 := comes_1 fun _ _ _ _ _ _ h hF => ⟨h.2.1, hF⟩
end Jvm.Pilot.@@N@@
namespace Jvm.Pilot.@@N@@
open Jvm Jvm.ClassFile Sem Op Lib Jvm.Free Jvm.Stand Jvm.Pilot.@@N@@.Jvm.D
/-! MADE BY PROGRAM (witnessworld.py) out of the Statement's table words and the real class files: 9 classes; the members and pool entries that the words name. The judged class is class 1, her method 1. -/
namespace start1
open Jvm.ClassFile
def u (s : String) : CpInfo := .utf8 (stringToUtf16 s)
/-- a pool by its gaps: so many unusable entries, then the entry; so many at the end -/
def gap : Nat → List CpInfo → List CpInfo
  | 0, r => r
  | n + 1, r => .unusable :: gap n r
def poolList (es : List (Nat × CpInfo)) (last : Nat) : List CpInfo := es.foldr (fun e r => gap e.1 (e.2 :: r)) (gap last [])
def pool (es : List (Nat × CpInfo)) (last : Nat) : Array CpInfo := ⟨poolList es last⟩
def fileOf (pool : Array CpInfo) (this : Nat) (attrs : Array Attribute := #[]) (ms : Array MethodInfo := #[]) (fl : Nat := 33) (sup : Nat := 0) (ifs : Array Nat := #[]) (fds : Array FieldInfo := #[]) : ClassFile where
  minorVersion := 0
  majorVersion := 65
  constantPool := pool
  accessFlags := fl
  thisClass := this
  superClass := sup
  interfaces := ifs
  fields := fds
  methods := ms
  attributes := attrs
def plain (name : String) (sup : Option ClassId) : Class where
  name := name
  kind := .ordinary
  loader := none
  accessFlags := 33
  super := sup
  interfaces := #[]
  cf := none
  fields := #[]
  methods := #[]
  instanceTypes := #[]
  staticTypes := #[]
  resolved := #[]
  callSites := []
  init := .initialized
  statics := none
  mirror := none

def pool0 : Array CpInfo := pool [(5, u "<init>"), (0, u "()V"), (1, .class_ 10), (1, u "java/lang/Object")] 113

def k0m0 : Method := { name := "<init>", desc := "()V", sig := { parameters := [], returnType := none }, accessFlags := 1, code := none }
/-- java/lang/Object -/
def k0 : Class := { plain "java/lang/Object" none with
  accessFlags := 33
  interfaces := #[]
  cf := some (fileOf pool0 8 #[] #[{ accessFlags := 1, nameIndex := 5, descriptorIndex := 6, attributes := #[] }] 33 0 #[] #[])
  fields := #[]
  methods := #[k0m0]
  instanceTypes := #[]
  staticTypes := #[]
  resolved := Array.replicate 124 none
  statics := none }

def pool1 : Array CpInfo := pool [(2, .class_ 4), (1, u "java/lang/Object"), (0, u "<init>"), (0, u "()V"), (0, .integer 2147483647), (0, .methodref 9 10), (0, .class_ 11), (0, .nameAndType 12 13), (0, u "com/example/threshold/threshold/engine/Bm25"), (0, u "sum"), (0, u "([D)D"), (0, .class_ 15), (0, u "com/example/threshold/threshold/engine/Bm25SumPinLaw"), (2, u "law"), (0, u "(IJJJJ)Z")] 5

def k1m0 : Method := { name := "<init>", desc := "()V", sig := { parameters := [], returnType := none }, accessFlags := 1, code := none }
def k1c1 : Code := { maxStack := 4, maxLocals := 23, code := code, exceptionTable := #[], attributes := #[] }
def k1m1 : Method := { name := "law", desc := "(IJJJJ)Z", sig := { parameters := [.int, .long, .long, .long, .long], returnType := some .boolean }, accessFlags := 9, code := some k1c1 }
/-- com/example/threshold/threshold/engine/Bm25SumPinLaw -/
def k1 : Class := { plain "com/example/threshold/threshold/engine/Bm25SumPinLaw" (some 0) with
  accessFlags := 49
  interfaces := #[]
  cf := some (fileOf pool1 14 #[] #[{ accessFlags := 1, nameIndex := 5, descriptorIndex := 6, attributes := #[] }, { accessFlags := 9, nameIndex := 18, descriptorIndex := 19, attributes := #[] }] 49 2 #[] #[])
  fields := #[]
  methods := #[k1m0, k1m1]
  instanceTypes := #[]
  staticTypes := #[]
  resolved := Array.replicate 25 none
  statics := none }

def pool2 : Array CpInfo := pool [(2, .class_ 4), (1, u "java/lang/Object"), (3, .class_ 10), (1, u "com/example/threshold/threshold/engine/Bm25"), (0, u "level"), (0, u "Lcom/example/threshold/threshold/index/Level;"), (8, u "norms"), (0, u "[D"), (40, u "K1"), (0, u "D"), (1, u "B"), (0, u "ROUNDINGS"), (13, u "sum"), (0, u "([D)D")] 4

def k2c0 : Code := { maxStack := 4, maxLocals := 8, code := prog_2_method_7_code, exceptionTable := #[], attributes := #[] }
def k2m0 : Method := { name := "sum", desc := "([D)D", sig := { parameters := [(.array .double)], returnType := some .double }, accessFlags := 8, code := some k2c0 }
/-- com/example/threshold/threshold/engine/Bm25 -/
def k2 : Class := { plain "com/example/threshold/threshold/engine/Bm25" (some 0) with
  accessFlags := 48
  interfaces := #[]
  cf := some (fileOf pool2 8 #[] #[{ accessFlags := 8, nameIndex := 81, descriptorIndex := 82, attributes := #[] }] 48 2 #[] #[{ accessFlags := 26, nameIndex := 63, descriptorIndex := 64, attributes := #[] }, { accessFlags := 26, nameIndex := 66, descriptorIndex := 64, attributes := #[] }, { accessFlags := 26, nameIndex := 67, descriptorIndex := 64, attributes := #[] }, { accessFlags := 18, nameIndex := 11, descriptorIndex := 12, attributes := #[] }, { accessFlags := 18, nameIndex := 21, descriptorIndex := 22, attributes := #[] }])
  fields := #[{ name := "K1", type := .double, accessFlags := 26, slot := 0, constantValue := 0 }, { name := "B", type := .double, accessFlags := 26, slot := 1, constantValue := 0 }, { name := "ROUNDINGS", type := .double, accessFlags := 26, slot := 2, constantValue := 0 }, { name := "level", type := (.object "com/example/threshold/threshold/index/Level"), accessFlags := 18, slot := 0, constantValue := 0 }, { name := "norms", type := (.array .double), accessFlags := 18, slot := 1, constantValue := 0 }]
  methods := #[k2m0]
  instanceTypes := #[(.object "com/example/threshold/threshold/index/Level"), (.array .double)]
  staticTypes := #[.double, .double, .double]
  resolved := Array.replicate 87 none
  statics := none }

def pool3 : Array CpInfo := pool [(1, u "java/lang/Cloneable"), (0, .class_ 1), (0, u "java/lang/Object"), (0, .class_ 3)] 3

/-- java/lang/Cloneable -/
def k3 : Class := { plain "java/lang/Cloneable" (some 0) with
  accessFlags := 1537
  interfaces := #[]
  cf := some (fileOf pool3 2 #[] #[] 1537 4 #[] #[])
  fields := #[]
  methods := #[]
  instanceTypes := #[]
  staticTypes := #[]
  resolved := Array.replicate 8 none
  statics := none }

def pool4 : Array CpInfo := pool [(1, u "java/io/Serializable"), (0, .class_ 1), (0, u "java/lang/Object"), (0, .class_ 3)] 3

/-- java/io/Serializable -/
def k4 : Class := { plain "java/io/Serializable" (some 0) with
  accessFlags := 1537
  interfaces := #[]
  cf := some (fileOf pool4 2 #[] #[] 1537 4 #[] #[])
  fields := #[]
  methods := #[]
  instanceTypes := #[]
  staticTypes := #[]
  resolved := Array.replicate 8 none
  statics := none }

/-- the primitive byte -/
def k5 : Class := { plain "byte" none with kind := .primitive 'B', accessFlags := 0x411 }
/-- [B -/
def k6 : Class := { plain "[B" (some 0) with kind := .array 5 .byte, interfaces := #[3, 4], accessFlags := 1041 }

/-- the primitive int -/
def k7 : Class := { plain "int" none with kind := .primitive 'I', accessFlags := 0x411 }
/-- [I -/
def k8 : Class := { plain "[I" (some 0) with kind := .array 7 .int, interfaces := #[3, 4], accessFlags := 1041 }

/-- the primitive double -/
def k9 : Class := { plain "double" none with kind := .primitive 'D', accessFlags := 0x411 }
/-- [D -/
def k10 : Class := { plain "[D" (some 0) with kind := .array 9 .double, interfaces := #[3, 4], accessFlags := 1041 }

def heap : Heap := #[]
def classes : Array Class := #[k0, k1, k2, k3, k4, k5, k6, k7, k8, k9, k10]
def interned : List (Array UInt16 × Addr) := []
def slotsUsed : Nat := 0
def theMethod : MethodId := ⟨1, 1⟩
def args0 : Array Value := #[.int 3, .long 5, .long 7, .long 8, .long 9]
def aboutOver (below : List Frame) : State where
  vm := { classes := classes, interned := interned.toArray }
  heap := heap
  slotsUsed := slotsUsed
  threads := #[{ frames := .invoking theMethod args0 :: below }]
def below0 : List Frame := [.native { method := ⟨0, 0⟩, args := #[] }]
def about1 : State := aboutOver below0
def p0 : Program := .bare "" "" ""
def e0 : Env := launch0.env 0 0 0
theorem w_frames : about1.frames = Frame.invoking theMethod args0 :: below0 := rfl
set_option maxRecDepth 65536 in
theorem w_args : argsFit about1.vm theMethod args0 = true := by decide +kernel
set_option maxRecDepth 65536 in
theorem w_heap : heapFits about1 = true := by decide +kernel
set_option maxRecDepth 65536 in
theorem w_runnable : about1.curStatus? = some .runnable := by decide +kernel
set_option maxRecDepth 65536 in
theorem w_alone : about1.alone = true := by decide +kernel
set_option maxRecDepth 65536 in
theorem w_named : about1.methodNamed? x = some theMethod := by decide +kernel
set_option maxRecDepth 65536 in
theorem w_hears : about1.hears theMethod below0 = true := by decide +kernel
set_option maxRecDepth 65536 in
theorem w_ripe : about1.ripe theMethod args0 below0 = true := by decide +kernel
theorem w_running : about1.status = .running := rfl
set_option maxRecDepth 65536 in
theorem w_room : about1.hasRoom e0.platform room_1 = true :=
  launch0.hasRoom_least _ room_1 (by decide +kernel) (by decide +kernel) (by decide +kernel) (by decide +kernel) (by decide +kernel) (by decide +kernel)
theorem allAtoms_all (ts : List Jvm.Cond) (a : Array Jvm.Value) (st : Jvm.State) : (allAtoms ts).before a st = ts.all (fun c => c.before a st) := by
  induction ts with
  | nil => rfl
  | cons c t ih =>
    show (Jvm.Cond.and c (allAtoms t)).before a st = _
    rw [Jvm.Cond.before_and, ih, List.all_cons]
def words1 : List Jvm.Cond := Jvm.Cond.code x code maxLocals ret :: tables_1
/-- a 'code' word, met by the world's own term for the bytes: nothing is compared byte by byte -/
theorem code_word {y : MethodName} {bytes : ByteArray} {mx : Nat} {rt : Option FieldType} {a : Array Value} {s : State} {m : MethodId} {meth : Method} {c : Code} (h1 : s.methodNamed? y = some m) (h2 : s.vm.method? m = some meth) (h3 : meth.code = some c) (h4 : c.code = bytes)
    (h5 : (c.maxLocals == mx && c.exceptionTable.isEmpty && decide (c.maxStack ≤ mostOperands) && decide (meth.sig.returnType = rt) && !meth.locks && decide (parseMethodDescriptor y.desc = some meth.sig)) = true) : (Jvm.Cond.code y bytes mx rt).before a s = true := by
  simp only [Bool.and_eq_true, beq_iff_eq, Bool.not_eq_true', decide_eq_true_eq] at h5
  obtain ⟨⟨⟨⟨⟨g1, g2⟩, g3⟩, g4⟩, g5⟩, g6⟩ := h5
  simp [Cond.before, Cond.holds, Cond.value, h1, h2, h3, h4, g1, g2, g3, g4, g5, g6]
def isCode : Jvm.Cond → Bool
  | .code _ _ _ _ => true
  | _ => false
theorem all_split {L : List Jvm.Cond} {P : Jvm.Cond → Bool} (h1 : L.all (fun c => isCode c || P c) = true) (h2 : ∀ c ∈ L.filter isCode, P c = true) : L.all P = true := by
  refine List.all_eq_true.mpr fun c hc => ?_
  have h := List.all_eq_true.mp h1 c hc
  rcases Bool.eq_false_or_eq_true (isCode c) with hi | hi
  · exact h2 c (List.mem_filter.mpr ⟨hc, hi⟩)
  · simpa [hi] using h
set_option maxRecDepth 65536 in
theorem w_c0 : (Jvm.Cond.code x code maxLocals ret).before args0 about1 = true := code_word (m := ⟨1, 1⟩) (meth := k1m1) (c := k1c1) (by decide +kernel) rfl rfl rfl (by decide +kernel)
set_option maxRecDepth 65536 in
theorem w_c1 : (Jvm.Cond.code ({ cls := "com/example/threshold/threshold/engine/Bm25", name := "sum", desc := "([D)D" } : Jvm.MethodName) prog_2_method_7_code (8 : Nat) (Option.some Jvm.ClassFile.FieldType.double)).before args0 about1 = true := code_word (m := ⟨2, 0⟩) (meth := k2m0) (c := k2c0) (by decide +kernel) rfl rfl rfl (by decide +kernel)
def codes1 : List Jvm.Cond := [Jvm.Cond.code x code maxLocals ret, Jvm.Cond.code ({ cls := "com/example/threshold/threshold/engine/Bm25", name := "sum", desc := "([D)D" } : Jvm.MethodName) prog_2_method_7_code (8 : Nat) (Option.some Jvm.ClassFile.FieldType.double)]
set_option maxRecDepth 65536 in
theorem codes_eq : words1.filter isCode = codes1 := rfl
theorem w_codes : ∀ c ∈ words1.filter isCode, c.before args0 about1 = true := by
  rw [codes_eq]
  intro c hc
  simp only [codes1, List.mem_cons, List.not_mem_nil, or_false] at hc
  rcases hc with rfl | rfl
  · exact w_c0
  · exact w_c1
set_option maxRecDepth 65536 in
theorem w_t1 : words1.all (fun c => isCode c || c.before args0 about1) = true := by decide +kernel
theorem w_tables : (allAtoms (Jvm.Cond.code x code maxLocals ret :: tables_1)).before args0 about1 = true := by
  rw [allAtoms_all]
  show words1.all (fun c => c.before args0 about1) = true
  refine all_split ?_ w_codes
  rw [w_t1]
set_option maxRecDepth 65536 in
theorem w_case : (Jvm.Cond.and given_1 narrow_1).before args0 about1 = true := by decide +kernel
theorem w_applies : (headSpec (Jvm.Cond.code x code maxLocals ret :: tables_1) room_1).applies x e0.platform about1 = true :=
  (Spec.applies_iff w_frames).mpr ⟨w_running, w_runnable, w_alone, w_named, w_hears, w_ripe, w_room, w_tables⟩
theorem atStart : AtStart classFile x code maxLocals ret World_1 tables_1 room_1 Calls_1 rest_1 Pre_1 launch0 p0 e0 about1 theMethod args0 below0 :=
  ⟨lists_1, trivial, launch0.admits_env _ _ _, launch0.least_env, fairChoices_fair.cas, fairChoices_fair.clock, w_frames, w_args, w_heap, w_applies, trivial, trivial, w_case⟩
end start1
theorem witness_1 : WitnessClaimed_1 := ⟨start1.p0, start1.e0, start1.about1, start1.theMethod, start1.args0, start1.below0, start1.atStart⟩
end Jvm.Pilot.@@N@@
