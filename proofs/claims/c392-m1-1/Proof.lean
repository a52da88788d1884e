import JvmDerived
import JvmDerived.Pilot.@@N@@Statement
import JvmDerived.Pilot.@@N@@Code
set_option linter.unusedVariables false
set_option linter.unusedSimpArgs false
@@BLOCK:NumsL.lean.txt@@
namespace Jvm.RoadKit
open Sem ClassFile Op Lib Jvm.Stand Jvm.Free Jvm.LawKit
section OwnRuns
variable {p : Program} {l : Launch} {e : Env} {R : Room} {s : State} {m : MethodId} {args : Array Value} {below : List Frame} {meth : Method} {c : Code} {T : State} {locs : List Loc} {cells slots : Nat}
/-- from U the invocation comes to its end, and there Q holds -/
def Runs (p : Program) (e : Env) (below : List Frame) (Q : Outcome → State → Prop) (U : State) : Prop :=
  ∃ s₂ o, Steps p.tables e below U s₂ ∧ s₂.status = .running ∧ Ended s₂ below o ∧ Q o s₂
def QE (s : State) (Q : Option Value → Heap → List Loc → Prop) (C S : Nat) : Outcome → State → Prop :=
  fun o U' => ∃ v L, o = .returned v ∧ Q v U'.heap L ∧ FrameEnd s o U' L C S
theorem Runs.by {Q : Outcome → State → Prop} {U U' : State} (h : ∀ t, Steps p.tables e below U' t → Steps p.tables e below U t) (k : Runs p e below Q U') : Runs p e below Q U := by
  obtain ⟨s2, o, h1, h2⟩ := k
  exact ⟨s2, o, h _ h1, h2⟩
theorem Runs.ret {Q : Option Value → Heap → List Loc → Prop} {C S : Nat} {t : FieldType} {w : Value} {i : Instr} {pc : Nat} {Ls : Array Slot} {rest : List Value}
    (X : Stand p l e R s m args below meth c T locs cells slots) (hx : p.tables.exec = Jvm.exec) (hret : meth.sig.returnType = some t) (hlk : meth.locks = false)
    (hi : (i = .ireturn ∧ (t = .int ∨ t = .boolean ∨ t = .byte ∨ t = .char ∨ t = .short) ∧ ∃ z, w = .int z) ∨ (i = .lreturn ∧ t = .long ∧ ∃ z, w = .long z) ∨ (i = .dreturn ∧ t = .double ∧ ∃ z, w = .double z) ∨ (i = .freturn ∧ t = .float ∧ ∃ z, w = .float z) ∨ (i = .areturn ∧ t.isReference = true ∧ w.isRef = true))
    (hn : narrow t w = w) (hd : decode c.code pc = .ok (i, 1)) (hC : cells ≤ C) (hS : slots ≤ S) (hQ : Q (some w) T.heap locs) : Runs p e below (QE s Q C S) (T.setTop (mkF m pc Ls (w :: rest))) := by
  obtain ⟨fs, hr, hrun, hended, hW, hsame⟩ := X.leave (v := some w) (fun h => by rw [hret] at h; cases h) hlk
  exact ⟨_, _, retOut X hx hret hn hi hd hr, hrun, hended, _, _, rfl, hQ, ⟨_, rfl⟩, hW, hsame.mono hC hS⟩
theorem Runs.retV {Q : Option Value → Heap → List Loc → Prop} {C S : Nat} {pc : Nat} {Ls : Array Slot}
    (X : Stand p l e R s m args below meth c T locs cells slots) (hx : p.tables.exec = Jvm.exec) (hret : meth.sig.returnType = none) (hlk : meth.locks = false)
    (hd : decode c.code pc = .ok (.return_, 1)) (hC : cells ≤ C) (hS : slots ≤ S) (hQ : Q none T.heap locs) : Runs p e below (QE s Q C S) (T.setTop (mkF m pc Ls [])) := by
  obtain ⟨fs, hr, hrun, hended, hW, hsame⟩ := X.leave (v := none) (fun _ => rfl) hlk
  exact ⟨_, _, X.returnOut hx hret hd hr, hrun, hended, _, _, rfl, hQ, ⟨_, rfl⟩, hW, hsame.mono hC hS⟩
theorem own_narrow_b (x : Int32) (h : x = 0 ∨ x = 1) : narrow .boolean (.int x) = .int x := by rcases h with rfl | rfl <;> rfl
end OwnRuns
end Jvm.RoadKit
namespace Jvm.Pilot.@@N@@
open Jvm Jvm.ClassFile Sem Op Lib Jvm.Free Jvm.Stand Jvm.LawKit Jvm.RoadKit Bundle Jvm.Pilot.@@N@@.Jvm.D
theorem d5_0 : decode jdk_71_method_1_code 0 = .ok (.aload_n 0, 1) := by decide +kernel
theorem d5_1 : decode jdk_71_method_1_code 1 = .ok (.invokespecial 1, 3) := by decide +kernel
theorem d5_4 : decode jdk_71_method_1_code 4 = .ok (.return_, 1) := by decide +kernel
theorem ef_5_0 (m : MethodId) (o0 : Addr) : entryFrame m #[(.ref o0)] 1 = mkF m 0 #[.val (.ref o0)] [] := by first | (simp [entryFrame, mkF, argsToLocals, Value.category]; done) | rfl
theorem pn_java_util_AbstractMap : plainName "java/util/AbstractMap" = true := by first | (simp [plainName, overriddenIn]; done) | decide +kernel
def Q_rm5 (Z : State) (o0 : Addr)  (h0 : Heap) (n0 : Nat) (v : Option Value) (h : Heap) (L : List Loc) : Prop := v = none ∧ Fr n0 L ∧ h = h0
set_option maxRecDepth 65536 in
set_option maxHeartbeats 40000000 in
theorem rm5 (l : Launch) (Z : State) (a0 : Array Value) (hw : ∀ d ∈ tables_1, d.before a0 Z = true) (ws : List Jvm.Cond) (o0 : Addr)  (h0 : Heap) (n0 : Nat) (Z0 : n0 ≤ h0.size) :
    MetFree l (⟨"java/util/AbstractMap", "<init>", "()V"⟩ : MethodName) (head1 (Jvm.Cond.code (⟨"java/util/AbstractMap", "<init>", "()V"⟩ : MethodName) jdk_71_method_1_code 1 none :: ws) ({ frames := 1, cells := 0, slots := 0, locals := 12 } : Room)) (fun a U => a = #[(.ref o0)] ∧ Z.Warmed39 U.vm ∧ U.heap = h0) (fun _ _ _ _ _ => True) (fun _ U o U' => ∃ v L, o = .returned v ∧ Q_rm5 Z o0 h0 n0 v U'.heap L ∧ FrameEnd U o U' L ({ frames := 1, cells := 0, slots := 0, locals := 12 } : Room).cells ({ frames := 1, cells := 0, slots := 0, locals := 12 } : Room).slots) := by
  refine MetFree.of_bodySF (plainFor_of_name pn_java_util_AbstractMap) hisR ?_
  intro p e s m args below meth c s₁ Bd hml0 hP hK
  obtain ⟨rfl, hZ, hh⟩ := hP
  have hx := Bd.exec
  have hby := Bd.bytes
  have hlk := BodyLoose.notSynchronized Bd
  have hrt := Bd.returns
  have hml : c.maxLocals = 1 := hml0
  have hown : s.vm.findClass "java/util/AbstractMap" = some m.cls := findClass_of_methodNamed Bd.named
  have hnm := (name_of_methodNamed Bd.named Bd.method).1
  have X0 : Stand p l e ({ frames := 1, cells := 0, slots := 0, locals := 12 } : Room) s m #[(.ref o0)] below meth c s₁ [] 0 0 := Stand.of_body Bd
  have e0 : s₁.heap = h0 := by rw [← hh, Bd.state]; rfl
  have N0 := Fr.nil n0
  have K0 : Keep h0 h0 [] := Keep.refl h0 _
  show Runs p e below (QE s (Q_rm5 Z o0 h0 n0) ({ frames := 1, cells := 0, slots := 0, locals := 12 } : Room).cells ({ frames := 1, cells := 0, slots := 0, locals := 12 } : Room).slots) (s₁.setTop (entryFrame m #[(.ref o0)] 1))
  rw [ef_5_0 m o0]
  show Runs p e below _ (s₁.setTop (mkF m 0 #[.val (.ref o0)] []))
  refine Runs.by (fun _ hr => XS.aloadN X0.here hx rfl (hb hby d5_0) rfl rfl hr) ?_
  show Runs p e below _ (s₁.setTop (mkF m 1 #[.val (.ref o0)] [(.ref o0)]))
  obtain ⟨T1, X1, e1, st1⟩ := initO X0 hx hZ hown (hw _ (List.mem_of_getElem? (i := 24) rfl)) (hw _ (List.mem_of_getElem? (i := 10) rfl)) (hw _ (List.mem_of_getElem? (i := 11) rfl)) e0 (g := (mkF m 1 #[.val (.ref o0)] [(.ref o0)])) rfl (by rw [hml]; rfl) rfl (hb hby d5_1) (by decide) (W := 0) (by show 2 * 0 + _ ≤ _; exact Nat.le_of_eq rfl) (by decide)
  refine Runs.by st1 ?_
  show Runs p e below _ (T1.setTop (mkF m 4 #[.val (.ref o0)] []))
  refine Runs.retV X1 hx hrt hlk (hb hby d5_4) (by decide) (by decide) ?_
  rw [e1]
  exact ⟨rfl, N0, rfl⟩
theorem d7_0 : decode jdk_30_method_1_code 0 = .ok (.aload_n 0, 1) := by decide +kernel
theorem d7_1 : decode jdk_30_method_1_code 1 = .ok (.invokespecial 1, 3) := by decide +kernel
theorem d7_4 : decode jdk_30_method_1_code 4 = .ok (.return_, 1) := by decide +kernel
theorem ef_7_1 (m : MethodId) (o0 : Addr) : entryFrame m #[(.ref o0)] 1 = mkF m 0 #[.val (.ref o0)] [] := by first | (simp [entryFrame, mkF, argsToLocals, Value.category]; done) | rfl
theorem pn_java_lang_Record : plainName "java/lang/Record" = true := by first | (simp [plainName, overriddenIn]; done) | decide +kernel
def Q_rm7 (Z : State) (o0 : Addr)  (h0 : Heap) (n0 : Nat) (v : Option Value) (h : Heap) (L : List Loc) : Prop := v = none ∧ Fr n0 L ∧ h = h0
set_option maxRecDepth 65536 in
set_option maxHeartbeats 40000000 in
theorem rm7 (l : Launch) (Z : State) (a0 : Array Value) (hw : ∀ d ∈ tables_1, d.before a0 Z = true) (ws : List Jvm.Cond) (o0 : Addr)  (h0 : Heap) (n0 : Nat) (Z0 : n0 ≤ h0.size) :
    MetFree l (⟨"java/lang/Record", "<init>", "()V"⟩ : MethodName) (head1 (Jvm.Cond.code (⟨"java/lang/Record", "<init>", "()V"⟩ : MethodName) jdk_30_method_1_code 1 none :: ws) ({ frames := 1, cells := 0, slots := 0, locals := 12 } : Room)) (fun a U => a = #[(.ref o0)] ∧ Z.Warmed39 U.vm ∧ U.heap = h0) (fun _ _ _ _ _ => True) (fun _ U o U' => ∃ v L, o = .returned v ∧ Q_rm7 Z o0 h0 n0 v U'.heap L ∧ FrameEnd U o U' L ({ frames := 1, cells := 0, slots := 0, locals := 12 } : Room).cells ({ frames := 1, cells := 0, slots := 0, locals := 12 } : Room).slots) := by
  refine MetFree.of_bodySF (plainFor_of_name pn_java_lang_Record) hisR ?_
  intro p e s m args below meth c s₁ Bd hml0 hP hK
  obtain ⟨rfl, hZ, hh⟩ := hP
  have hx := Bd.exec
  have hby := Bd.bytes
  have hlk := BodyLoose.notSynchronized Bd
  have hrt := Bd.returns
  have hml : c.maxLocals = 1 := hml0
  have hown : s.vm.findClass "java/lang/Record" = some m.cls := findClass_of_methodNamed Bd.named
  have hnm := (name_of_methodNamed Bd.named Bd.method).1
  have X0 : Stand p l e ({ frames := 1, cells := 0, slots := 0, locals := 12 } : Room) s m #[(.ref o0)] below meth c s₁ [] 0 0 := Stand.of_body Bd
  have e0 : s₁.heap = h0 := by rw [← hh, Bd.state]; rfl
  have N0 := Fr.nil n0
  have K0 : Keep h0 h0 [] := Keep.refl h0 _
  show Runs p e below (QE s (Q_rm7 Z o0 h0 n0) ({ frames := 1, cells := 0, slots := 0, locals := 12 } : Room).cells ({ frames := 1, cells := 0, slots := 0, locals := 12 } : Room).slots) (s₁.setTop (entryFrame m #[(.ref o0)] 1))
  rw [ef_7_1 m o0]
  show Runs p e below _ (s₁.setTop (mkF m 0 #[.val (.ref o0)] []))
  refine Runs.by (fun _ hr => XS.aloadN X0.here hx rfl (hb hby d7_0) rfl rfl hr) ?_
  show Runs p e below _ (s₁.setTop (mkF m 1 #[.val (.ref o0)] [(.ref o0)]))
  obtain ⟨T1, X1, e1, st1⟩ := initO X0 hx hZ hown (hw _ (List.mem_of_getElem? (i := 47) rfl)) (hw _ (List.mem_of_getElem? (i := 10) rfl)) (hw _ (List.mem_of_getElem? (i := 11) rfl)) e0 (g := (mkF m 1 #[.val (.ref o0)] [(.ref o0)])) rfl (by rw [hml]; rfl) rfl (hb hby d7_1) (by decide) (W := 0) (by show 2 * 0 + _ ≤ _; exact Nat.le_of_eq rfl) (by decide)
  refine Runs.by st1 ?_
  show Runs p e below _ (T1.setTop (mkF m 4 #[.val (.ref o0)] []))
  refine Runs.retV X1 hx hrt hlk (hb hby d7_4) (by decide) (by decide) ?_
  rw [e1]
  exact ⟨rfl, N0, rfl⟩
theorem d4_0 : decode jdk_69_method_7_code 0 = .ok (.aload_n 0, 1) := by decide +kernel
theorem d4_1 : decode jdk_69_method_7_code 1 = .ok (.invokespecial 43, 3) := by decide +kernel
theorem d4_4 : decode jdk_69_method_7_code 4 = .ok (.aload_n 0, 1) := by decide +kernel
theorem d4_5 : decode jdk_69_method_7_code 5 = .ok (.ldc 92, 2) := by decide +kernel
theorem d4_7 : decode jdk_69_method_7_code 7 = .ok (.putfield 81, 3) := by decide +kernel
theorem d4_10 : decode jdk_69_method_7_code 10 = .ok (.return_, 1) := by decide +kernel
theorem ef_4_2 (m : MethodId) (o0 : Addr) : entryFrame m #[(.ref o0)] 1 = mkF m 0 #[.val (.ref o0)] [] := by first | (simp [entryFrame, mkF, argsToLocals, Value.category]; done) | rfl
theorem pn_java_util_HashMap : plainName "java/util/HashMap" = true := by first | (simp [plainName, overriddenIn]; done) | decide +kernel
def Q_rm4 (Z : State) (o0 : Addr)  (h0 : Heap) (n0 : Nat) (v : Option Value) (h : Heap) (L : List Loc) : Prop := v = none ∧ Fr n0 L ∧ Keep h0 h [o0]
theorem pd_0 : parseMethodDescriptor "()V" = some ⟨[], none⟩ := by decide +kernel
set_option maxRecDepth 65536 in
set_option maxHeartbeats 40000000 in
theorem rm4 (l : Launch) (Z : State) (a0 : Array Value) (hw : ∀ d ∈ tables_1, d.before a0 Z = true) (ws : List Jvm.Cond) (o0 : Addr)  (h0 : Heap) (n0 : Nat) (Z0 : n0 ≤ h0.size) (E0 : Exa Z h0 o0 "java/util/HashMap") (F0 : Fld Z h0 o0 "java/util/HashMap" "loadFactor" "F" (.float 0)) (g_o0 : n0 ≤ o0) :
    MetFree l (⟨"java/util/HashMap", "<init>", "()V"⟩ : MethodName) (head1 (Jvm.Cond.code (⟨"java/util/HashMap", "<init>", "()V"⟩ : MethodName) jdk_69_method_7_code 1 none :: ws) ({ frames := 2, cells := 0, slots := 0, locals := 24 } : Room)) (fun a U => a = #[(.ref o0)] ∧ Z.Warmed39 U.vm ∧ U.heap = h0) (fun _ _ _ _ _ => True) (fun _ U o U' => ∃ v L, o = .returned v ∧ Q_rm4 Z o0 h0 n0 v U'.heap L ∧ FrameEnd U o U' L ({ frames := 2, cells := 0, slots := 0, locals := 24 } : Room).cells ({ frames := 2, cells := 0, slots := 0, locals := 24 } : Room).slots) := by
  refine MetFree.of_bodySF (plainFor_of_name pn_java_util_HashMap) hisR ?_
  intro p e s m args below meth c s₁ Bd hml0 hP hK
  obtain ⟨rfl, hZ, hh⟩ := hP
  have hx := Bd.exec
  have hby := Bd.bytes
  have hlk := BodyLoose.notSynchronized Bd
  have hrt := Bd.returns
  have hml : c.maxLocals = 1 := hml0
  have hown : s.vm.findClass "java/util/HashMap" = some m.cls := findClass_of_methodNamed Bd.named
  have hnm := (name_of_methodNamed Bd.named Bd.method).1
  have X0 : Stand p l e ({ frames := 2, cells := 0, slots := 0, locals := 24 } : Room) s m #[(.ref o0)] below meth c s₁ [] 0 0 := Stand.of_body Bd
  have e0 : s₁.heap = h0 := by rw [← hh, Bd.state]; rfl
  have N0 := Fr.nil n0
  have K0 : Keep h0 h0 [o0] := Keep.refl h0 _
  show Runs p e below (QE s (Q_rm4 Z o0 h0 n0) ({ frames := 2, cells := 0, slots := 0, locals := 24 } : Room).cells ({ frames := 2, cells := 0, slots := 0, locals := 24 } : Room).slots) (s₁.setTop (entryFrame m #[(.ref o0)] 1))
  rw [ef_4_2 m o0]
  show Runs p e below _ (s₁.setTop (mkF m 0 #[.val (.ref o0)] []))
  refine Runs.by (fun _ hr => XS.aloadN X0.here hx rfl (hb hby d4_0) rfl rfl hr) ?_
  show Runs p e below _ (s₁.setTop (mkF m 1 #[.val (.ref o0)] [(.ref o0)]))
  obtain ⟨_, _, ⟨T1, L1, k1, n1⟩, -, X1, ⟨Lc1, hQ1, l1, y1, z1⟩, st1⟩ := X0.specialBack hx (y := (⟨"java/util/AbstractMap", "<init>", "()V"⟩ : MethodName)) rfl hown (mvT hZ (hw _ (List.mem_of_getElem? (i := 18) rfl))) (mvT hZ (hw _ (List.mem_of_getElem? (i := 19) rfl))) (mvT hZ (hw _ (List.mem_of_getElem? (i := 23) rfl))) (by decide) (backOf (W := 0) (rm5 l Z a0 hw [] o0  h0 n0 (Nat.le_trans Z0 K0.1) ) hZ (hw _ (List.mem_of_getElem? (i := 23) rfl)) (hw _ (List.mem_of_getElem? (i := 22) rfl)) (by decide) (by decide)) (g := (mkF m 1 #[.val (.ref o0)] [(.ref o0)])) rfl (by rw [hml]; rfl) (Steps.refl _) (a := o0) (argsL := []) (rest := []) (lenOf pd_0 rfl) rfl (by show 2 * 0 + _ ≤ _; exact Nat.le_of_eq rfl) (hb hby d4_1) (fun _ _ => ⟨rfl, e0, (by decide : 0 + 0 ≤ _), (by decide : 0 + 0 ≤ _)⟩)
  dsimp only [Pt.U, Pt.locs, Pt.cells, Pt.slots] at X1 l1 y1 z1 st1 hQ1
  subst l1 y1 z1
  obtain ⟨rfl, Nq1, eq1⟩ := hQ1
  have N1 := Fr.app N0 Nq1
  refine Runs.by (fun _ hr => st1.trans hr) ?_
  show Runs p e below _ (T1.setTop (mkF m 4 #[.val (.ref o0)] []))
  refine Runs.by (fun _ hr => XS.aloadN X1.here hx rfl (hb hby d4_4) rfl rfl hr) ?_
  show Runs p e below _ (T1.setTop (mkF m 5 #[.val (.ref o0)] [(.ref o0)]))
  refine Runs.by (fun t hr => X1.ldcFloatC hx hown (mvT hZ (hw _ (List.mem_of_getElem? (i := 25) rfl))) (g := (mkF m 5 #[.val (.ref o0)] [(.ref o0)])) rfl (hb hby d4_5) t hr) ?_
  show Runs p e below _ (T1.setTop (mkF m 7 #[.val (.ref o0)] [(.float (1061158912 : UInt32)), (.ref o0)]))
  obtain ⟨T2, h2, X2, e2, W2, st2⟩ := putF X1 hx hZ hown (host := "") (Or.inl (hw _ (List.mem_of_getElem? (i := 26) rfl))) Via.refl eq1 F0 E0 (Or.inr ⟨(hw _ (List.mem_of_getElem? (i := 27) rfl)), rfl, hnm⟩) (hw _ (List.mem_of_getElem? (i := 13) rfl)) (ty := .float) (by decide) rfl rfl (g := (mkF m 7 #[.val (.ref o0)] [(.float (1061158912 : UInt32)), (.ref o0)])) rfl rfl (hb hby d4_7)
  have Fw2 := F0.same W2
  have K3 : Keep h0 h2 [o0] := K0.wr W2 (Or.inl (List.mem_of_getElem? (i := 0) rfl))
  have N2 := Fr.snoc X2 N1 g_o0
  refine Runs.by st2 ?_
  show Runs p e below _ (T2.setTop (mkF m 10 #[.val (.ref o0)] []))
  refine Runs.retV X2 hx hrt hlk (hb hby d4_10) (by decide) (by decide) ?_
  rw [e2]
  exact ⟨rfl, N2, K3⟩
theorem d2_0 : decode prog_21_method_2_code 0 = .ok (.aload_n 0, 1) := by decide +kernel
theorem d2_1 : decode prog_21_method_2_code 1 = .ok (.invokespecial 7, 3) := by decide +kernel
theorem d2_4 : decode prog_21_method_2_code 4 = .ok (.aload_n 0, 1) := by decide +kernel
theorem d2_5 : decode prog_21_method_2_code 5 = .ok (.new 12, 3) := by decide +kernel
theorem d2_8 : decode prog_21_method_2_code 8 = .ok (.dup, 1) := by decide +kernel
theorem d2_9 : decode prog_21_method_2_code 9 = .ok (.invokespecial 14, 3) := by decide +kernel
theorem d2_12 : decode prog_21_method_2_code 12 = .ok (.putfield 15, 3) := by decide +kernel
theorem d2_15 : decode prog_21_method_2_code 15 = .ok (.aload_n 0, 1) := by decide +kernel
theorem d2_16 : decode prog_21_method_2_code 16 = .ok (.aload_n 1, 1) := by decide +kernel
theorem d2_17 : decode prog_21_method_2_code 17 = .ok (.putfield 19, 3) := by decide +kernel
theorem d2_20 : decode prog_21_method_2_code 20 = .ok (.return_, 1) := by decide +kernel
theorem ef_2_3 (m : MethodId) (o0 : Addr) (o1 : Addr) : entryFrame m #[(.ref o0), (.ref o1)] 2 = mkF m 0 #[.val (.ref o0), .val (.ref o1)] [] := by first | (simp [entryFrame, mkF, argsToLocals, Value.category]; done) | rfl
theorem pn_com_example_prorata_prorata_request_Form : plainName "com/example/prorata/prorata/request/Form" = true := by first | (simp [plainName, overriddenIn]; done) | decide +kernel
def Q_rm2 (Z : State) (o0 : Addr) (o1 : Addr)  (h0 : Heap) (n0 : Nat) (v : Option Value) (h : Heap) (L : List Loc) : Prop := v = none ∧ Fr n0 L ∧ Keep h0 h [o0] ∧ Exa Z h o0 "com/example/prorata/prorata/request/Form" ∧ Fld Z h o0 "com/example/prorata/prorata/request/Form" "base" "Lcom/example/prorata/prorata/request/Form;" (.ref o1)
set_option maxRecDepth 65536 in
set_option maxHeartbeats 40000000 in
theorem rm2 (l : Launch) (Z : State) (a0 : Array Value) (hw : ∀ d ∈ tables_1, d.before a0 Z = true) (ws : List Jvm.Cond) (o0 : Addr) (o1 : Addr)  (h0 : Heap) (n0 : Nat) (Z0 : n0 ≤ h0.size) (E0 : Exa Z h0 o0 "com/example/prorata/prorata/request/Form") (F0 : Fld Z h0 o0 "com/example/prorata/prorata/request/Form" "fields" "Ljava/util/Map;" .null) (F1 : Fld Z h0 o0 "com/example/prorata/prorata/request/Form" "base" "Lcom/example/prorata/prorata/request/Form;" .null) (g_o0 : n0 ≤ o0) :
    MetFree l (⟨"com/example/prorata/prorata/request/Form", "<init>", "(Lcom/example/prorata/prorata/request/Form;)V"⟩ : MethodName) (head1 (Jvm.Cond.code (⟨"com/example/prorata/prorata/request/Form", "<init>", "(Lcom/example/prorata/prorata/request/Form;)V"⟩ : MethodName) prog_21_method_2_code 2 none :: ws) ({ frames := 3, cells := 1, slots := 8, locals := 38 } : Room)) (fun a U => a = #[(.ref o0), (.ref o1)] ∧ Z.Warmed39 U.vm ∧ U.heap = h0) (fun _ _ _ _ _ => True) (fun _ U o U' => ∃ v L, o = .returned v ∧ Q_rm2 Z o0 o1 h0 n0 v U'.heap L ∧ FrameEnd U o U' L ({ frames := 3, cells := 1, slots := 8, locals := 38 } : Room).cells ({ frames := 3, cells := 1, slots := 8, locals := 38 } : Room).slots) := by
  refine MetFree.of_bodySF (plainFor_of_name pn_com_example_prorata_prorata_request_Form) hisR ?_
  intro p e s m args below meth c s₁ Bd hml0 hP hK
  obtain ⟨rfl, hZ, hh⟩ := hP
  have hx := Bd.exec
  have hby := Bd.bytes
  have hlk := BodyLoose.notSynchronized Bd
  have hrt := Bd.returns
  have hml : c.maxLocals = 2 := hml0
  have hown : s.vm.findClass "com/example/prorata/prorata/request/Form" = some m.cls := findClass_of_methodNamed Bd.named
  have hnm := (name_of_methodNamed Bd.named Bd.method).1
  have X0 : Stand p l e ({ frames := 3, cells := 1, slots := 8, locals := 38 } : Room) s m #[(.ref o0), (.ref o1)] below meth c s₁ [] 0 0 := Stand.of_body Bd
  have e0 : s₁.heap = h0 := by rw [← hh, Bd.state]; rfl
  have N0 := Fr.nil n0
  have K0 : Keep h0 h0 [o0] := Keep.refl h0 _
  show Runs p e below (QE s (Q_rm2 Z o0 o1 h0 n0) ({ frames := 3, cells := 1, slots := 8, locals := 38 } : Room).cells ({ frames := 3, cells := 1, slots := 8, locals := 38 } : Room).slots) (s₁.setTop (entryFrame m #[(.ref o0), (.ref o1)] 2))
  rw [ef_2_3 m o0 o1]
  show Runs p e below _ (s₁.setTop (mkF m 0 #[.val (.ref o0), .val (.ref o1)] []))
  refine Runs.by (fun _ hr => XS.aloadN X0.here hx rfl (hb hby d2_0) rfl rfl hr) ?_
  show Runs p e below _ (s₁.setTop (mkF m 1 #[.val (.ref o0), .val (.ref o1)] [(.ref o0)]))
  obtain ⟨T1, X1, e1, st1⟩ := initO X0 hx hZ hown (hw _ (List.mem_of_getElem? (i := 9) rfl)) (hw _ (List.mem_of_getElem? (i := 10) rfl)) (hw _ (List.mem_of_getElem? (i := 11) rfl)) e0 (g := (mkF m 1 #[.val (.ref o0), .val (.ref o1)] [(.ref o0)])) rfl (by rw [hml]; rfl) rfl (hb hby d2_1) (by decide) (W := 0) (by show 2 * 0 + _ ≤ _; exact Nat.le_of_eq rfl) (by decide)
  refine Runs.by st1 ?_
  show Runs p e below _ (T1.setTop (mkF m 4 #[.val (.ref o0), .val (.ref o1)] []))
  refine Runs.by (fun _ hr => XS.aloadN X1.here hx rfl (hb hby d2_4) rfl rfl hr) ?_
  show Runs p e below _ (T1.setTop (mkF m 5 #[.val (.ref o0), .val (.ref o1)] [(.ref o0)]))
  obtain ⟨T2, h2, X2, e2, E2, A2, D2, -, st2⟩ := newO X1 hx hZ hown (hw _ (List.mem_of_getElem? (i := 12) rfl)) (hw _ (List.mem_of_getElem? (i := 13) rfl)) (hw _ (List.mem_of_getElem? (i := 14) rfl)) e1 (g := (mkF m 5 #[.val (.ref o0), .val (.ref o1)] [(.ref o0)])) rfl (hb hby d2_5) (by decide) (by decide)
  obtain ⟨b2, gz2⟩ : ∃ z, z = h0.size := ⟨_, rfl⟩
  rw [← gz2] at A2 D2 st2
  have ne_o0_b2 : o0 ≠ b2 := Nat.ne_of_lt (Nat.lt_of_lt_of_le E0.lt (Nat.le_of_eq gz2.symm))
  have g_b2 : n0 ≤ b2 := Nat.le_trans (Nat.le_trans Z0 K0.1) (Nat.le_of_eq gz2.symm)
  have sz_b2 : h0.size ≤ b2 := Nat.le_trans K0.1 (Nat.le_of_eq gz2.symm)
  have K3 : Keep h0 h2 [o0] := K0.ext E2
  have F_loadFactor_b2 : Fld Z h2 b2 "java/util/HashMap" "loadFactor" "F" (.float (0 : UInt32)) := D2 (Or.inr (hw _ (List.mem_of_getElem? (i := 27) rfl))) (ty := .float) (by decide)
  refine Runs.by st2 ?_
  show Runs p e below _ (T2.setTop (mkF m 8 #[.val (.ref o0), .val (.ref o1)] [(.ref b2), (.ref o0)]))
  refine Runs.by (fun _ hr => XS.dup X2.here hx rfl (hb hby d2_8) rfl rfl hr) ?_
  show Runs p e below _ (T2.setTop (mkF m 9 #[.val (.ref o0), .val (.ref o1)] [(.ref b2), (.ref b2), (.ref o0)]))
  obtain ⟨_, _, ⟨T4, L4, k4, n4⟩, -, X4, ⟨Lc4, hQ4, l4, y4, z4⟩, st4⟩ := X2.specialBack hx (y := (⟨"java/util/HashMap", "<init>", "()V"⟩ : MethodName)) rfl hown (mvT hZ (hw _ (List.mem_of_getElem? (i := 15) rfl))) (mvT hZ (hw _ (List.mem_of_getElem? (i := 16) rfl))) (mvT hZ (hw _ (List.mem_of_getElem? (i := 17) rfl))) (by decide) (backOf (W := 2) (rm4 l Z a0 hw [] b2  h2 n0 (Nat.le_trans Z0 K3.1) A2 F_loadFactor_b2 g_b2) hZ (hw _ (List.mem_of_getElem? (i := 17) rfl)) (hw _ (List.mem_of_getElem? (i := 14) rfl)) (by decide) (by decide)) (g := (mkF m 9 #[.val (.ref o0), .val (.ref o1)] [(.ref b2), (.ref b2), (.ref o0)])) rfl (by rw [hml]; rfl) (Steps.refl _) (a := b2) (argsL := []) (rest := [(.ref b2), (.ref o0)]) (lenOf pd_0 rfl) rfl (by show 2 * 0 + _ ≤ _; exact Nat.le_of_eq rfl) (hb hby d2_9) (fun _ _ => ⟨rfl, e2, (by decide : 1 + 0 ≤ _), (by decide : 8 + 0 ≤ _)⟩)
  dsimp only [Pt.U, Pt.locs, Pt.cells, Pt.slots] at X4 l4 y4 z4 st4 hQ4
  subst l4 y4 z4
  obtain ⟨rfl, Nq4, Kq4⟩ := hQ4
  have N4 := Fr.app N0 Nq4
  have K5 : Keep h0 T4.heap [o0] := Keep.trans (ws := [o0]) K3 Kq4 (allS (Or.inr sz_b2) all0)
  refine Runs.by (fun _ hr => st4.trans hr) ?_
  show Runs p e below _ (T4.setTop (mkF m 12 #[.val (.ref o0), .val (.ref o1)] [(.ref b2), (.ref o0)]))
  obtain ⟨T6, h6, X6, e6, W6, st6⟩ := putF X4 hx hZ hown (host := "") (Or.inl (hw _ (List.mem_of_getElem? (i := 28) rfl))) Via.refl rfl ((F0.ext E2).keep Kq4 (ninS ne_o0_b2 nin0)) ((E0.ext E2).keep Kq4) (Or.inr ⟨(hw _ (List.mem_of_getElem? (i := 29) rfl)), rfl, hnm⟩) (hw _ (List.mem_of_getElem? (i := 1) rfl)) (ty := (.object "java/util/Map")) (by decide) rfl rfl (g := (mkF m 12 #[.val (.ref o0), .val (.ref o1)] [(.ref b2), (.ref o0)])) rfl rfl (hb hby d2_12)
  have Fw6 := ((F0.ext E2).keep Kq4 (ninS ne_o0_b2 nin0)).same W6
  have K7 : Keep h0 h6 [o0] := K5.wr W6 (Or.inl (List.mem_of_getElem? (i := 0) rfl))
  have N6 := Fr.snoc X6 N4 g_o0
  refine Runs.by st6 ?_
  show Runs p e below _ (T6.setTop (mkF m 15 #[.val (.ref o0), .val (.ref o1)] []))
  refine Runs.by (fun _ hr => XS.aloadN X6.here hx rfl (hb hby d2_15) rfl rfl hr) ?_
  show Runs p e below _ (T6.setTop (mkF m 16 #[.val (.ref o0), .val (.ref o1)] [(.ref o0)]))
  refine Runs.by (fun _ hr => XS.aloadN X6.here hx rfl (hb hby d2_16) rfl rfl hr) ?_
  show Runs p e below _ (T6.setTop (mkF m 17 #[.val (.ref o0), .val (.ref o1)] [(.ref o1), (.ref o0)]))
  obtain ⟨T8, h8, X8, e8, W8, st8⟩ := putF X6 hx hZ hown (host := "") (Or.inl (hw _ (List.mem_of_getElem? (i := 30) rfl))) Via.refl e6 (((F1.ext E2).keep Kq4 (ninS ne_o0_b2 nin0)).other W6 (Or.inr (slot_ne (Or.inr (hw _ (List.mem_of_getElem? (i := 31) rfl))) (Or.inr (hw _ (List.mem_of_getElem? (i := 29) rfl))) (by decide) (t := (.object "com/example/prorata/prorata/request/Form")) (t' := (.object "java/util/Map")) (by decide) (by decide)))) (((E0.ext E2).keep Kq4).wr W6) (Or.inr ⟨(hw _ (List.mem_of_getElem? (i := 31) rfl)), rfl, hnm⟩) (hw _ (List.mem_of_getElem? (i := 1) rfl)) (ty := (.object "com/example/prorata/prorata/request/Form")) (by decide) rfl rfl (g := (mkF m 17 #[.val (.ref o0), .val (.ref o1)] [(.ref o1), (.ref o0)])) rfl rfl (hb hby d2_17)
  have Fw8 := (((F1.ext E2).keep Kq4 (ninS ne_o0_b2 nin0)).other W6 (Or.inr (slot_ne (Or.inr (hw _ (List.mem_of_getElem? (i := 31) rfl))) (Or.inr (hw _ (List.mem_of_getElem? (i := 29) rfl))) (by decide) (t := (.object "com/example/prorata/prorata/request/Form")) (t' := (.object "java/util/Map")) (by decide) (by decide)))).same W8
  have K9 : Keep h0 h8 [o0] := K7.wr W8 (Or.inl (List.mem_of_getElem? (i := 0) rfl))
  have N8 := Fr.snoc X8 N6 g_o0
  refine Runs.by st8 ?_
  show Runs p e below _ (T8.setTop (mkF m 20 #[.val (.ref o0), .val (.ref o1)] []))
  refine Runs.retV X8 hx hrt hlk (hb hby d2_20) (by decide) (by decide) ?_
  rw [e8]
  exact ⟨rfl, N8, K9, ((((E0.ext E2).keep Kq4).wr W6).wr W8), Fw8⟩
theorem ef_2_4 (m : MethodId) (o0 : Addr) : entryFrame m #[(.ref o0), .null] 2 = mkF m 0 #[.val (.ref o0), .val .null] [] := by first | (simp [entryFrame, mkF, argsToLocals, Value.category]; done) | rfl
def Q_rm2n (Z : State) (o0 : Addr)  (h0 : Heap) (n0 : Nat) (v : Option Value) (h : Heap) (L : List Loc) : Prop := v = none ∧ Fr n0 L ∧ Keep h0 h [o0] ∧ Exa Z h o0 "com/example/prorata/prorata/request/Form" ∧ Fld Z h o0 "com/example/prorata/prorata/request/Form" "base" "Lcom/example/prorata/prorata/request/Form;" .null
set_option maxRecDepth 65536 in
set_option maxHeartbeats 40000000 in
theorem rm2n (l : Launch) (Z : State) (a0 : Array Value) (hw : ∀ d ∈ tables_1, d.before a0 Z = true) (ws : List Jvm.Cond) (o0 : Addr)  (h0 : Heap) (n0 : Nat) (Z0 : n0 ≤ h0.size) (E0 : Exa Z h0 o0 "com/example/prorata/prorata/request/Form") (F0 : Fld Z h0 o0 "com/example/prorata/prorata/request/Form" "fields" "Ljava/util/Map;" .null) (F1 : Fld Z h0 o0 "com/example/prorata/prorata/request/Form" "base" "Lcom/example/prorata/prorata/request/Form;" .null) (g_o0 : n0 ≤ o0) :
    MetFree l (⟨"com/example/prorata/prorata/request/Form", "<init>", "(Lcom/example/prorata/prorata/request/Form;)V"⟩ : MethodName) (head1 (Jvm.Cond.code (⟨"com/example/prorata/prorata/request/Form", "<init>", "(Lcom/example/prorata/prorata/request/Form;)V"⟩ : MethodName) prog_21_method_2_code 2 none :: ws) ({ frames := 3, cells := 1, slots := 8, locals := 38 } : Room)) (fun a U => a = #[(.ref o0), .null] ∧ Z.Warmed39 U.vm ∧ U.heap = h0) (fun _ _ _ _ _ => True) (fun _ U o U' => ∃ v L, o = .returned v ∧ Q_rm2n Z o0 h0 n0 v U'.heap L ∧ FrameEnd U o U' L ({ frames := 3, cells := 1, slots := 8, locals := 38 } : Room).cells ({ frames := 3, cells := 1, slots := 8, locals := 38 } : Room).slots) := by
  refine MetFree.of_bodySF (plainFor_of_name pn_com_example_prorata_prorata_request_Form) hisR ?_
  intro p e s m args below meth c s₁ Bd hml0 hP hK
  obtain ⟨rfl, hZ, hh⟩ := hP
  have hx := Bd.exec
  have hby := Bd.bytes
  have hlk := BodyLoose.notSynchronized Bd
  have hrt := Bd.returns
  have hml : c.maxLocals = 2 := hml0
  have hown : s.vm.findClass "com/example/prorata/prorata/request/Form" = some m.cls := findClass_of_methodNamed Bd.named
  have hnm := (name_of_methodNamed Bd.named Bd.method).1
  have X0 : Stand p l e ({ frames := 3, cells := 1, slots := 8, locals := 38 } : Room) s m #[(.ref o0), .null] below meth c s₁ [] 0 0 := Stand.of_body Bd
  have e0 : s₁.heap = h0 := by rw [← hh, Bd.state]; rfl
  have N0 := Fr.nil n0
  have K0 : Keep h0 h0 [o0] := Keep.refl h0 _
  show Runs p e below (QE s (Q_rm2n Z o0 h0 n0) ({ frames := 3, cells := 1, slots := 8, locals := 38 } : Room).cells ({ frames := 3, cells := 1, slots := 8, locals := 38 } : Room).slots) (s₁.setTop (entryFrame m #[(.ref o0), .null] 2))
  rw [ef_2_4 m o0]
  show Runs p e below _ (s₁.setTop (mkF m 0 #[.val (.ref o0), .val .null] []))
  refine Runs.by (fun _ hr => XS.aloadN X0.here hx rfl (hb hby d2_0) rfl rfl hr) ?_
  show Runs p e below _ (s₁.setTop (mkF m 1 #[.val (.ref o0), .val .null] [(.ref o0)]))
  obtain ⟨T1, X1, e1, st1⟩ := initO X0 hx hZ hown (hw _ (List.mem_of_getElem? (i := 9) rfl)) (hw _ (List.mem_of_getElem? (i := 10) rfl)) (hw _ (List.mem_of_getElem? (i := 11) rfl)) e0 (g := (mkF m 1 #[.val (.ref o0), .val .null] [(.ref o0)])) rfl (by rw [hml]; rfl) rfl (hb hby d2_1) (by decide) (W := 0) (by show 2 * 0 + _ ≤ _; exact Nat.le_of_eq rfl) (by decide)
  refine Runs.by st1 ?_
  show Runs p e below _ (T1.setTop (mkF m 4 #[.val (.ref o0), .val .null] []))
  refine Runs.by (fun _ hr => XS.aloadN X1.here hx rfl (hb hby d2_4) rfl rfl hr) ?_
  show Runs p e below _ (T1.setTop (mkF m 5 #[.val (.ref o0), .val .null] [(.ref o0)]))
  obtain ⟨T2, h2, X2, e2, E2, A2, D2, -, st2⟩ := newO X1 hx hZ hown (hw _ (List.mem_of_getElem? (i := 12) rfl)) (hw _ (List.mem_of_getElem? (i := 13) rfl)) (hw _ (List.mem_of_getElem? (i := 14) rfl)) e1 (g := (mkF m 5 #[.val (.ref o0), .val .null] [(.ref o0)])) rfl (hb hby d2_5) (by decide) (by decide)
  obtain ⟨b2, gz2⟩ : ∃ z, z = h0.size := ⟨_, rfl⟩
  rw [← gz2] at A2 D2 st2
  have ne_o0_b2 : o0 ≠ b2 := Nat.ne_of_lt (Nat.lt_of_lt_of_le E0.lt (Nat.le_of_eq gz2.symm))
  have g_b2 : n0 ≤ b2 := Nat.le_trans (Nat.le_trans Z0 K0.1) (Nat.le_of_eq gz2.symm)
  have sz_b2 : h0.size ≤ b2 := Nat.le_trans K0.1 (Nat.le_of_eq gz2.symm)
  have K3 : Keep h0 h2 [o0] := K0.ext E2
  have F_loadFactor_b2 : Fld Z h2 b2 "java/util/HashMap" "loadFactor" "F" (.float (0 : UInt32)) := D2 (Or.inr (hw _ (List.mem_of_getElem? (i := 27) rfl))) (ty := .float) (by decide)
  refine Runs.by st2 ?_
  show Runs p e below _ (T2.setTop (mkF m 8 #[.val (.ref o0), .val .null] [(.ref b2), (.ref o0)]))
  refine Runs.by (fun _ hr => XS.dup X2.here hx rfl (hb hby d2_8) rfl rfl hr) ?_
  show Runs p e below _ (T2.setTop (mkF m 9 #[.val (.ref o0), .val .null] [(.ref b2), (.ref b2), (.ref o0)]))
  obtain ⟨_, _, ⟨T4, L4, k4, n4⟩, -, X4, ⟨Lc4, hQ4, l4, y4, z4⟩, st4⟩ := X2.specialBack hx (y := (⟨"java/util/HashMap", "<init>", "()V"⟩ : MethodName)) rfl hown (mvT hZ (hw _ (List.mem_of_getElem? (i := 15) rfl))) (mvT hZ (hw _ (List.mem_of_getElem? (i := 16) rfl))) (mvT hZ (hw _ (List.mem_of_getElem? (i := 17) rfl))) (by decide) (backOf (W := 2) (rm4 l Z a0 hw [] b2  h2 n0 (Nat.le_trans Z0 K3.1) A2 F_loadFactor_b2 g_b2) hZ (hw _ (List.mem_of_getElem? (i := 17) rfl)) (hw _ (List.mem_of_getElem? (i := 14) rfl)) (by decide) (by decide)) (g := (mkF m 9 #[.val (.ref o0), .val .null] [(.ref b2), (.ref b2), (.ref o0)])) rfl (by rw [hml]; rfl) (Steps.refl _) (a := b2) (argsL := []) (rest := [(.ref b2), (.ref o0)]) (lenOf pd_0 rfl) rfl (by show 2 * 0 + _ ≤ _; exact Nat.le_of_eq rfl) (hb hby d2_9) (fun _ _ => ⟨rfl, e2, (by decide : 1 + 0 ≤ _), (by decide : 8 + 0 ≤ _)⟩)
  dsimp only [Pt.U, Pt.locs, Pt.cells, Pt.slots] at X4 l4 y4 z4 st4 hQ4
  subst l4 y4 z4
  obtain ⟨rfl, Nq4, Kq4⟩ := hQ4
  have N4 := Fr.app N0 Nq4
  have K5 : Keep h0 T4.heap [o0] := Keep.trans (ws := [o0]) K3 Kq4 (allS (Or.inr sz_b2) all0)
  refine Runs.by (fun _ hr => st4.trans hr) ?_
  show Runs p e below _ (T4.setTop (mkF m 12 #[.val (.ref o0), .val .null] [(.ref b2), (.ref o0)]))
  obtain ⟨T6, h6, X6, e6, W6, st6⟩ := putF X4 hx hZ hown (host := "") (Or.inl (hw _ (List.mem_of_getElem? (i := 28) rfl))) Via.refl rfl ((F0.ext E2).keep Kq4 (ninS ne_o0_b2 nin0)) ((E0.ext E2).keep Kq4) (Or.inr ⟨(hw _ (List.mem_of_getElem? (i := 29) rfl)), rfl, hnm⟩) (hw _ (List.mem_of_getElem? (i := 1) rfl)) (ty := (.object "java/util/Map")) (by decide) rfl rfl (g := (mkF m 12 #[.val (.ref o0), .val .null] [(.ref b2), (.ref o0)])) rfl rfl (hb hby d2_12)
  have Fw6 := ((F0.ext E2).keep Kq4 (ninS ne_o0_b2 nin0)).same W6
  have K7 : Keep h0 h6 [o0] := K5.wr W6 (Or.inl (List.mem_of_getElem? (i := 0) rfl))
  have N6 := Fr.snoc X6 N4 g_o0
  refine Runs.by st6 ?_
  show Runs p e below _ (T6.setTop (mkF m 15 #[.val (.ref o0), .val .null] []))
  refine Runs.by (fun _ hr => XS.aloadN X6.here hx rfl (hb hby d2_15) rfl rfl hr) ?_
  show Runs p e below _ (T6.setTop (mkF m 16 #[.val (.ref o0), .val .null] [(.ref o0)]))
  refine Runs.by (fun _ hr => XS.aloadN X6.here hx rfl (hb hby d2_16) rfl rfl hr) ?_
  show Runs p e below _ (T6.setTop (mkF m 17 #[.val (.ref o0), .val .null] [.null, (.ref o0)]))
  obtain ⟨T8, h8, X8, e8, W8, st8⟩ := putF X6 hx hZ hown (host := "") (Or.inl (hw _ (List.mem_of_getElem? (i := 30) rfl))) Via.refl e6 (((F1.ext E2).keep Kq4 (ninS ne_o0_b2 nin0)).other W6 (Or.inr (slot_ne (Or.inr (hw _ (List.mem_of_getElem? (i := 31) rfl))) (Or.inr (hw _ (List.mem_of_getElem? (i := 29) rfl))) (by decide) (t := (.object "com/example/prorata/prorata/request/Form")) (t' := (.object "java/util/Map")) (by decide) (by decide)))) (((E0.ext E2).keep Kq4).wr W6) (Or.inr ⟨(hw _ (List.mem_of_getElem? (i := 31) rfl)), rfl, hnm⟩) (hw _ (List.mem_of_getElem? (i := 1) rfl)) (ty := (.object "com/example/prorata/prorata/request/Form")) (by decide) rfl rfl (g := (mkF m 17 #[.val (.ref o0), .val .null] [.null, (.ref o0)])) rfl rfl (hb hby d2_17)
  have Fw8 := (((F1.ext E2).keep Kq4 (ninS ne_o0_b2 nin0)).other W6 (Or.inr (slot_ne (Or.inr (hw _ (List.mem_of_getElem? (i := 31) rfl))) (Or.inr (hw _ (List.mem_of_getElem? (i := 29) rfl))) (by decide) (t := (.object "com/example/prorata/prorata/request/Form")) (t' := (.object "java/util/Map")) (by decide) (by decide)))).same W8
  have K9 : Keep h0 h8 [o0] := K7.wr W8 (Or.inl (List.mem_of_getElem? (i := 0) rfl))
  have N8 := Fr.snoc X8 N6 g_o0
  refine Runs.by st8 ?_
  show Runs p e below _ (T8.setTop (mkF m 20 #[.val (.ref o0), .val .null] []))
  refine Runs.retV X8 hx hrt hlk (hb hby d2_20) (by decide) (by decide) ?_
  rw [e8]
  exact ⟨rfl, N8, K9, ((((E0.ext E2).keep Kq4).wr W6).wr W8), Fw8⟩
theorem d1_0 : decode prog_21_method_1_code 0 = .ok (.aload_n 0, 1) := by decide +kernel
theorem d1_1 : decode prog_21_method_1_code 1 = .ok (.aconst_null, 1) := by decide +kernel
theorem d1_2 : decode prog_21_method_1_code 2 = .ok (.invokespecial 1, 3) := by decide +kernel
theorem d1_5 : decode prog_21_method_1_code 5 = .ok (.return_, 1) := by decide +kernel
theorem ef_1_5 (m : MethodId) (o0 : Addr) : entryFrame m #[(.ref o0)] 1 = mkF m 0 #[.val (.ref o0)] [] := by first | (simp [entryFrame, mkF, argsToLocals, Value.category]; done) | rfl
def Q_rm1 (Z : State) (o0 : Addr)  (h0 : Heap) (n0 : Nat) (v : Option Value) (h : Heap) (L : List Loc) : Prop := v = none ∧ Fr n0 L ∧ Keep h0 h [o0] ∧ Exa Z h o0 "com/example/prorata/prorata/request/Form" ∧ Fld Z h o0 "com/example/prorata/prorata/request/Form" "base" "Lcom/example/prorata/prorata/request/Form;" .null
theorem pd_1 : parseMethodDescriptor "(Lcom/example/prorata/prorata/request/Form;)V" = some ⟨[(.object "com/example/prorata/prorata/request/Form")], none⟩ := by decide +kernel
set_option maxRecDepth 65536 in
set_option maxHeartbeats 40000000 in
theorem rm1 (l : Launch) (Z : State) (a0 : Array Value) (hw : ∀ d ∈ tables_1, d.before a0 Z = true) (ws : List Jvm.Cond) (o0 : Addr)  (h0 : Heap) (n0 : Nat) (Z0 : n0 ≤ h0.size) (E0 : Exa Z h0 o0 "com/example/prorata/prorata/request/Form") (F0 : Fld Z h0 o0 "com/example/prorata/prorata/request/Form" "fields" "Ljava/util/Map;" .null) (F1 : Fld Z h0 o0 "com/example/prorata/prorata/request/Form" "base" "Lcom/example/prorata/prorata/request/Form;" .null) (g_o0 : n0 ≤ o0) :
    MetFree l (⟨"com/example/prorata/prorata/request/Form", "<init>", "()V"⟩ : MethodName) (head1 (Jvm.Cond.code (⟨"com/example/prorata/prorata/request/Form", "<init>", "()V"⟩ : MethodName) prog_21_method_1_code 1 none :: ws) ({ frames := 4, cells := 1, slots := 8, locals := 51 } : Room)) (fun a U => a = #[(.ref o0)] ∧ Z.Warmed39 U.vm ∧ U.heap = h0) (fun _ _ _ _ _ => True) (fun _ U o U' => ∃ v L, o = .returned v ∧ Q_rm1 Z o0 h0 n0 v U'.heap L ∧ FrameEnd U o U' L ({ frames := 4, cells := 1, slots := 8, locals := 51 } : Room).cells ({ frames := 4, cells := 1, slots := 8, locals := 51 } : Room).slots) := by
  refine MetFree.of_bodySF (plainFor_of_name pn_com_example_prorata_prorata_request_Form) hisR ?_
  intro p e s m args below meth c s₁ Bd hml0 hP hK
  obtain ⟨rfl, hZ, hh⟩ := hP
  have hx := Bd.exec
  have hby := Bd.bytes
  have hlk := BodyLoose.notSynchronized Bd
  have hrt := Bd.returns
  have hml : c.maxLocals = 1 := hml0
  have hown : s.vm.findClass "com/example/prorata/prorata/request/Form" = some m.cls := findClass_of_methodNamed Bd.named
  have hnm := (name_of_methodNamed Bd.named Bd.method).1
  have X0 : Stand p l e ({ frames := 4, cells := 1, slots := 8, locals := 51 } : Room) s m #[(.ref o0)] below meth c s₁ [] 0 0 := Stand.of_body Bd
  have e0 : s₁.heap = h0 := by rw [← hh, Bd.state]; rfl
  have N0 := Fr.nil n0
  have K0 : Keep h0 h0 [o0] := Keep.refl h0 _
  show Runs p e below (QE s (Q_rm1 Z o0 h0 n0) ({ frames := 4, cells := 1, slots := 8, locals := 51 } : Room).cells ({ frames := 4, cells := 1, slots := 8, locals := 51 } : Room).slots) (s₁.setTop (entryFrame m #[(.ref o0)] 1))
  rw [ef_1_5 m o0]
  show Runs p e below _ (s₁.setTop (mkF m 0 #[.val (.ref o0)] []))
  refine Runs.by (fun _ hr => XS.aloadN X0.here hx rfl (hb hby d1_0) rfl rfl hr) ?_
  show Runs p e below _ (s₁.setTop (mkF m 1 #[.val (.ref o0)] [(.ref o0)]))
  refine Runs.by (fun _ hr => XS.aconstNull X0.here hx rfl (hb hby d1_1) hr) ?_
  show Runs p e below _ (s₁.setTop (mkF m 2 #[.val (.ref o0)] [.null, (.ref o0)]))
  obtain ⟨_, _, ⟨T1, L1, k1, n1⟩, -, X1, ⟨Lc1, hQ1, l1, y1, z1⟩, st1⟩ := X0.specialBack hx (y := (⟨"com/example/prorata/prorata/request/Form", "<init>", "(Lcom/example/prorata/prorata/request/Form;)V"⟩ : MethodName)) rfl hown (mvT hZ (hw _ (List.mem_of_getElem? (i := 6) rfl))) (mvT hZ (hw _ (List.mem_of_getElem? (i := 7) rfl))) (mvT hZ (hw _ (List.mem_of_getElem? (i := 8) rfl))) (by decide) (backOf (W := 0) (rm2n l Z a0 hw [] o0  h0 n0 (Nat.le_trans Z0 K0.1) E0 F0 F1 g_o0) hZ (hw _ (List.mem_of_getElem? (i := 8) rfl)) (hw _ (List.mem_of_getElem? (i := 2) rfl)) (by decide) (by decide)) (g := (mkF m 2 #[.val (.ref o0)] [.null, (.ref o0)])) rfl (by rw [hml]; rfl) (Steps.refl _) (a := o0) (argsL := [.null]) (rest := []) (lenOf pd_1 rfl) rfl (by show 2 * 0 + _ ≤ _; exact Nat.le_of_eq rfl) (hb hby d1_2) (fun _ _ => ⟨rfl, e0, (by decide : 0 + 1 ≤ _), (by decide : 0 + 8 ≤ _)⟩)
  dsimp only [Pt.U, Pt.locs, Pt.cells, Pt.slots] at X1 l1 y1 z1 st1 hQ1
  subst l1 y1 z1
  obtain ⟨rfl, Nq1, Kq1, f1_0, f1_1⟩ := hQ1
  have N1 := Fr.app N0 Nq1
  have K2 : Keep h0 T1.heap [o0] := Keep.trans (ws := [o0]) K0 Kq1 (allS (Or.inl (List.mem_of_getElem? (i := 0) rfl)) all0)
  refine Runs.by (fun _ hr => st1.trans hr) ?_
  show Runs p e below _ (T1.setTop (mkF m 5 #[.val (.ref o0)] []))
  refine Runs.retV X1 hx hrt hlk (hb hby d1_5) (by decide) (by decide) ?_
  exact ⟨rfl, N1, K2, f1_0, f1_1⟩
theorem d6_0 : decode prog_22_method_1_code 0 = .ok (.aload_n 0, 1) := by decide +kernel
theorem d6_1 : decode prog_22_method_1_code 1 = .ok (.invokespecial 1, 3) := by decide +kernel
theorem d6_4 : decode prog_22_method_1_code 4 = .ok (.aload_n 0, 1) := by decide +kernel
theorem d6_5 : decode prog_22_method_1_code 5 = .ok (.aload_n 1, 1) := by decide +kernel
theorem d6_6 : decode prog_22_method_1_code 6 = .ok (.putfield 7, 3) := by decide +kernel
theorem d6_9 : decode prog_22_method_1_code 9 = .ok (.aload_n 0, 1) := by decide +kernel
theorem d6_10 : decode prog_22_method_1_code 10 = .ok (.aload_n 2, 1) := by decide +kernel
theorem d6_11 : decode prog_22_method_1_code 11 = .ok (.putfield 13, 3) := by decide +kernel
theorem d6_14 : decode prog_22_method_1_code 14 = .ok (.aload_n 0, 1) := by decide +kernel
theorem d6_15 : decode prog_22_method_1_code 15 = .ok (.aload_n 3, 1) := by decide +kernel
theorem d6_16 : decode prog_22_method_1_code 16 = .ok (.putfield 17, 3) := by decide +kernel
theorem d6_19 : decode prog_22_method_1_code 19 = .ok (.return_, 1) := by decide +kernel
theorem ef_6_6 (m : MethodId) (o0 : Addr) (o1 : Addr) : entryFrame m #[(.ref o0), (.ref o1), .null, .null] 4 = mkF m 0 #[.val (.ref o0), .val (.ref o1), .val .null, .val .null] [] := by first | (simp [entryFrame, mkF, argsToLocals, Value.category]; done) | rfl
theorem pn_com_example_prorata_prorata_request_Form_Field : plainName "com/example/prorata/prorata/request/Form$Field" = true := by first | (simp [plainName, overriddenIn]; done) | decide +kernel
def Q_rm6 (Z : State) (o0 : Addr) (o1 : Addr)  (h0 : Heap) (n0 : Nat) (v : Option Value) (h : Heap) (L : List Loc) : Prop := v = none ∧ Fr n0 L ∧ Keep h0 h [o0] ∧ Exa Z h o0 "com/example/prorata/prorata/request/Form$Field" ∧ Fld Z h o0 "com/example/prorata/prorata/request/Form$Field" "form" "Lcom/example/prorata/prorata/request/Form;" (.ref o1)
set_option maxRecDepth 65536 in
set_option maxHeartbeats 40000000 in
theorem rm6 (l : Launch) (Z : State) (a0 : Array Value) (hw : ∀ d ∈ tables_1, d.before a0 Z = true) (ws : List Jvm.Cond) (o0 : Addr) (o1 : Addr)  (h0 : Heap) (n0 : Nat) (Z0 : n0 ≤ h0.size) (E0 : Exa Z h0 o0 "com/example/prorata/prorata/request/Form$Field") (F0 : Fld Z h0 o0 "com/example/prorata/prorata/request/Form$Field" "form" "Lcom/example/prorata/prorata/request/Form;" .null) (F1 : Fld Z h0 o0 "com/example/prorata/prorata/request/Form$Field" "name" "Ljava/lang/String;" .null) (F2 : Fld Z h0 o0 "com/example/prorata/prorata/request/Form$Field" "holds" "Lcom/example/prorata/prorata/request/Form;" .null) (g_o0 : n0 ≤ o0) :
    MetFree l (⟨"com/example/prorata/prorata/request/Form$Field", "<init>", "(Lcom/example/prorata/prorata/request/Form;Ljava/lang/String;Lcom/example/prorata/prorata/request/Form;)V"⟩ : MethodName) (head1 (Jvm.Cond.code (⟨"com/example/prorata/prorata/request/Form$Field", "<init>", "(Lcom/example/prorata/prorata/request/Form;Ljava/lang/String;Lcom/example/prorata/prorata/request/Form;)V"⟩ : MethodName) prog_22_method_1_code 4 none :: ws) ({ frames := 2, cells := 0, slots := 0, locals := 24 } : Room)) (fun a U => a = #[(.ref o0), (.ref o1), .null, .null] ∧ Z.Warmed39 U.vm ∧ U.heap = h0) (fun _ _ _ _ _ => True) (fun _ U o U' => ∃ v L, o = .returned v ∧ Q_rm6 Z o0 o1 h0 n0 v U'.heap L ∧ FrameEnd U o U' L ({ frames := 2, cells := 0, slots := 0, locals := 24 } : Room).cells ({ frames := 2, cells := 0, slots := 0, locals := 24 } : Room).slots) := by
  refine MetFree.of_bodySF (plainFor_of_name pn_com_example_prorata_prorata_request_Form_Field) hisR ?_
  intro p e s m args below meth c s₁ Bd hml0 hP hK
  obtain ⟨rfl, hZ, hh⟩ := hP
  have hx := Bd.exec
  have hby := Bd.bytes
  have hlk := BodyLoose.notSynchronized Bd
  have hrt := Bd.returns
  have hml : c.maxLocals = 4 := hml0
  have hown : s.vm.findClass "com/example/prorata/prorata/request/Form$Field" = some m.cls := findClass_of_methodNamed Bd.named
  have hnm := (name_of_methodNamed Bd.named Bd.method).1
  have X0 : Stand p l e ({ frames := 2, cells := 0, slots := 0, locals := 24 } : Room) s m #[(.ref o0), (.ref o1), .null, .null] below meth c s₁ [] 0 0 := Stand.of_body Bd
  have e0 : s₁.heap = h0 := by rw [← hh, Bd.state]; rfl
  have N0 := Fr.nil n0
  have K0 : Keep h0 h0 [o0] := Keep.refl h0 _
  show Runs p e below (QE s (Q_rm6 Z o0 o1 h0 n0) ({ frames := 2, cells := 0, slots := 0, locals := 24 } : Room).cells ({ frames := 2, cells := 0, slots := 0, locals := 24 } : Room).slots) (s₁.setTop (entryFrame m #[(.ref o0), (.ref o1), .null, .null] 4))
  rw [ef_6_6 m o0 o1]
  show Runs p e below _ (s₁.setTop (mkF m 0 #[.val (.ref o0), .val (.ref o1), .val .null, .val .null] []))
  refine Runs.by (fun _ hr => XS.aloadN X0.here hx rfl (hb hby d6_0) rfl rfl hr) ?_
  show Runs p e below _ (s₁.setTop (mkF m 1 #[.val (.ref o0), .val (.ref o1), .val .null, .val .null] [(.ref o0)]))
  obtain ⟨_, _, ⟨T1, L1, k1, n1⟩, -, X1, ⟨Lc1, hQ1, l1, y1, z1⟩, st1⟩ := X0.specialBack hx (y := (⟨"java/lang/Record", "<init>", "()V"⟩ : MethodName)) rfl hown (mvT hZ (hw _ (List.mem_of_getElem? (i := 42) rfl))) (mvT hZ (hw _ (List.mem_of_getElem? (i := 43) rfl))) (mvT hZ (hw _ (List.mem_of_getElem? (i := 46) rfl))) (by decide) (backOf (W := 0) (rm7 l Z a0 hw [] o0  h0 n0 (Nat.le_trans Z0 K0.1) ) hZ (hw _ (List.mem_of_getElem? (i := 46) rfl)) (hw _ (List.mem_of_getElem? (i := 45) rfl)) (by decide) (by decide)) (g := (mkF m 1 #[.val (.ref o0), .val (.ref o1), .val .null, .val .null] [(.ref o0)])) rfl (by rw [hml]; rfl) (Steps.refl _) (a := o0) (argsL := []) (rest := []) (lenOf pd_0 rfl) rfl (by show 2 * 0 + _ ≤ _; exact Nat.le_of_eq rfl) (hb hby d6_1) (fun _ _ => ⟨rfl, e0, (by decide : 0 + 0 ≤ _), (by decide : 0 + 0 ≤ _)⟩)
  dsimp only [Pt.U, Pt.locs, Pt.cells, Pt.slots] at X1 l1 y1 z1 st1 hQ1
  subst l1 y1 z1
  obtain ⟨rfl, Nq1, eq1⟩ := hQ1
  have N1 := Fr.app N0 Nq1
  refine Runs.by (fun _ hr => st1.trans hr) ?_
  show Runs p e below _ (T1.setTop (mkF m 4 #[.val (.ref o0), .val (.ref o1), .val .null, .val .null] []))
  refine Runs.by (fun _ hr => XS.aloadN X1.here hx rfl (hb hby d6_4) rfl rfl hr) ?_
  show Runs p e below _ (T1.setTop (mkF m 5 #[.val (.ref o0), .val (.ref o1), .val .null, .val .null] [(.ref o0)]))
  refine Runs.by (fun _ hr => XS.aloadN X1.here hx rfl (hb hby d6_5) rfl rfl hr) ?_
  show Runs p e below _ (T1.setTop (mkF m 6 #[.val (.ref o0), .val (.ref o1), .val .null, .val .null] [(.ref o1), (.ref o0)]))
  obtain ⟨T2, h2, X2, e2, W2, st2⟩ := putF X1 hx hZ hown (host := "") (Or.inl (hw _ (List.mem_of_getElem? (i := 48) rfl))) Via.refl eq1 F0 E0 (Or.inr ⟨(hw _ (List.mem_of_getElem? (i := 49) rfl)), rfl, hnm⟩) (hw _ (List.mem_of_getElem? (i := 37) rfl)) (ty := (.object "com/example/prorata/prorata/request/Form")) (by decide) rfl rfl (g := (mkF m 6 #[.val (.ref o0), .val (.ref o1), .val .null, .val .null] [(.ref o1), (.ref o0)])) rfl rfl (hb hby d6_6)
  have Fw2 := F0.same W2
  have K3 : Keep h0 h2 [o0] := K0.wr W2 (Or.inl (List.mem_of_getElem? (i := 0) rfl))
  have N2 := Fr.snoc X2 N1 g_o0
  refine Runs.by st2 ?_
  show Runs p e below _ (T2.setTop (mkF m 9 #[.val (.ref o0), .val (.ref o1), .val .null, .val .null] []))
  refine Runs.by (fun _ hr => XS.aloadN X2.here hx rfl (hb hby d6_9) rfl rfl hr) ?_
  show Runs p e below _ (T2.setTop (mkF m 10 #[.val (.ref o0), .val (.ref o1), .val .null, .val .null] [(.ref o0)]))
  refine Runs.by (fun _ hr => XS.aloadN X2.here hx rfl (hb hby d6_10) rfl rfl hr) ?_
  show Runs p e below _ (T2.setTop (mkF m 11 #[.val (.ref o0), .val (.ref o1), .val .null, .val .null] [.null, (.ref o0)]))
  obtain ⟨T4, h4, X4, e4, W4, st4⟩ := putF X2 hx hZ hown (host := "") (Or.inl (hw _ (List.mem_of_getElem? (i := 50) rfl))) Via.refl e2 (F1.other W2 (Or.inr (slot_ne (Or.inr (hw _ (List.mem_of_getElem? (i := 51) rfl))) (Or.inr (hw _ (List.mem_of_getElem? (i := 49) rfl))) (by decide) (t := (.object "java/lang/String")) (t' := (.object "com/example/prorata/prorata/request/Form")) (by decide) (by decide)))) (E0.wr W2) (Or.inr ⟨(hw _ (List.mem_of_getElem? (i := 51) rfl)), rfl, hnm⟩) (hw _ (List.mem_of_getElem? (i := 37) rfl)) (ty := (.object "java/lang/String")) (by decide) rfl rfl (g := (mkF m 11 #[.val (.ref o0), .val (.ref o1), .val .null, .val .null] [.null, (.ref o0)])) rfl rfl (hb hby d6_11)
  have Fw4 := (F1.other W2 (Or.inr (slot_ne (Or.inr (hw _ (List.mem_of_getElem? (i := 51) rfl))) (Or.inr (hw _ (List.mem_of_getElem? (i := 49) rfl))) (by decide) (t := (.object "java/lang/String")) (t' := (.object "com/example/prorata/prorata/request/Form")) (by decide) (by decide)))).same W4
  have K5 : Keep h0 h4 [o0] := K3.wr W4 (Or.inl (List.mem_of_getElem? (i := 0) rfl))
  have N4 := Fr.snoc X4 N2 g_o0
  refine Runs.by st4 ?_
  show Runs p e below _ (T4.setTop (mkF m 14 #[.val (.ref o0), .val (.ref o1), .val .null, .val .null] []))
  refine Runs.by (fun _ hr => XS.aloadN X4.here hx rfl (hb hby d6_14) rfl rfl hr) ?_
  show Runs p e below _ (T4.setTop (mkF m 15 #[.val (.ref o0), .val (.ref o1), .val .null, .val .null] [(.ref o0)]))
  refine Runs.by (fun _ hr => XS.aloadN X4.here hx rfl (hb hby d6_15) rfl rfl hr) ?_
  show Runs p e below _ (T4.setTop (mkF m 16 #[.val (.ref o0), .val (.ref o1), .val .null, .val .null] [.null, (.ref o0)]))
  obtain ⟨T6, h6, X6, e6, W6, st6⟩ := putF X4 hx hZ hown (host := "") (Or.inl (hw _ (List.mem_of_getElem? (i := 52) rfl))) Via.refl e4 ((F2.other W2 (Or.inr (slot_ne (Or.inr (hw _ (List.mem_of_getElem? (i := 53) rfl))) (Or.inr (hw _ (List.mem_of_getElem? (i := 49) rfl))) (by decide) (t := (.object "com/example/prorata/prorata/request/Form")) (t' := (.object "com/example/prorata/prorata/request/Form")) (by decide) (by decide)))).other W4 (Or.inr (slot_ne (Or.inr (hw _ (List.mem_of_getElem? (i := 53) rfl))) (Or.inr (hw _ (List.mem_of_getElem? (i := 51) rfl))) (by decide) (t := (.object "com/example/prorata/prorata/request/Form")) (t' := (.object "java/lang/String")) (by decide) (by decide)))) ((E0.wr W2).wr W4) (Or.inr ⟨(hw _ (List.mem_of_getElem? (i := 53) rfl)), rfl, hnm⟩) (hw _ (List.mem_of_getElem? (i := 37) rfl)) (ty := (.object "com/example/prorata/prorata/request/Form")) (by decide) rfl rfl (g := (mkF m 16 #[.val (.ref o0), .val (.ref o1), .val .null, .val .null] [.null, (.ref o0)])) rfl rfl (hb hby d6_16)
  have Fw6 := ((F2.other W2 (Or.inr (slot_ne (Or.inr (hw _ (List.mem_of_getElem? (i := 53) rfl))) (Or.inr (hw _ (List.mem_of_getElem? (i := 49) rfl))) (by decide) (t := (.object "com/example/prorata/prorata/request/Form")) (t' := (.object "com/example/prorata/prorata/request/Form")) (by decide) (by decide)))).other W4 (Or.inr (slot_ne (Or.inr (hw _ (List.mem_of_getElem? (i := 53) rfl))) (Or.inr (hw _ (List.mem_of_getElem? (i := 51) rfl))) (by decide) (t := (.object "com/example/prorata/prorata/request/Form")) (t' := (.object "java/lang/String")) (by decide) (by decide)))).same W6
  have K7 : Keep h0 h6 [o0] := K5.wr W6 (Or.inl (List.mem_of_getElem? (i := 0) rfl))
  have N6 := Fr.snoc X6 N4 g_o0
  refine Runs.by st6 ?_
  show Runs p e below _ (T6.setTop (mkF m 19 #[.val (.ref o0), .val (.ref o1), .val .null, .val .null] []))
  refine Runs.retV X6 hx hrt hlk (hb hby d6_19) (by decide) (by decide) ?_
  rw [e6]
  exact ⟨rfl, N6, K7, (((E0.wr W2).wr W4).wr W6), ((Fw2.other W4 (Or.inr (slot_ne (Or.inr (hw _ (List.mem_of_getElem? (i := 49) rfl))) (Or.inr (hw _ (List.mem_of_getElem? (i := 51) rfl))) (by decide) (t := (.object "com/example/prorata/prorata/request/Form")) (t' := (.object "java/lang/String")) (by decide) (by decide)))).other W6 (Or.inr (slot_ne (Or.inr (hw _ (List.mem_of_getElem? (i := 49) rfl))) (Or.inr (hw _ (List.mem_of_getElem? (i := 53) rfl))) (by decide) (t := (.object "com/example/prorata/prorata/request/Form")) (t' := (.object "com/example/prorata/prorata/request/Form")) (by decide) (by decide))))⟩
theorem d9_0 : decode prog_22_method_5_code 0 = .ok (.aload_n 0, 1) := by decide +kernel
theorem d9_1 : decode prog_22_method_5_code 1 = .ok (.getfield 7, 3) := by decide +kernel
theorem d9_4 : decode prog_22_method_5_code 4 = .ok (.areturn, 1) := by decide +kernel
theorem ef_9_7 (m : MethodId) (o0 : Addr) : entryFrame m #[(.ref o0)] 1 = mkF m 0 #[.val (.ref o0)] [] := by first | (simp [entryFrame, mkF, argsToLocals, Value.category]; done) | rfl
def Q_rm9 (Z : State) (o0 : Addr) (fo : Addr) (h0 : Heap) (n0 : Nat) (v : Option Value) (h : Heap) (L : List Loc) : Prop := v = some (.ref fo) ∧ Fr n0 L ∧ h = h0
set_option maxRecDepth 65536 in
set_option maxHeartbeats 40000000 in
theorem rm9 (l : Launch) (Z : State) (a0 : Array Value) (hw : ∀ d ∈ tables_1, d.before a0 Z = true) (ws : List Jvm.Cond) (o0 : Addr) (fo : Addr) (h0 : Heap) (n0 : Nat) (Z0 : n0 ≤ h0.size) (F0 : Fld Z h0 o0 "com/example/prorata/prorata/request/Form$Field" "form" "Lcom/example/prorata/prorata/request/Form;" (.ref fo)) :
    MetFree l (⟨"com/example/prorata/prorata/request/Form$Field", "form", "()Lcom/example/prorata/prorata/request/Form;"⟩ : MethodName) (head1 (Jvm.Cond.code (⟨"com/example/prorata/prorata/request/Form$Field", "form", "()Lcom/example/prorata/prorata/request/Form;"⟩ : MethodName) prog_22_method_5_code 1 (some (.object "com/example/prorata/prorata/request/Form")) :: ws) ({ frames := 0, cells := 0, slots := 0, locals := 0 } : Room)) (fun a U => a = #[(.ref o0)] ∧ Z.Warmed39 U.vm ∧ U.heap = h0) (fun _ _ _ _ _ => True) (fun _ U o U' => ∃ v L, o = .returned v ∧ Q_rm9 Z o0 fo h0 n0 v U'.heap L ∧ FrameEnd U o U' L ({ frames := 0, cells := 0, slots := 0, locals := 0 } : Room).cells ({ frames := 0, cells := 0, slots := 0, locals := 0 } : Room).slots) := by
  refine MetFree.of_bodySF (plainFor_of_name pn_com_example_prorata_prorata_request_Form_Field) hisR ?_
  intro p e s m args below meth c s₁ Bd hml0 hP hK
  obtain ⟨rfl, hZ, hh⟩ := hP
  have hx := Bd.exec
  have hby := Bd.bytes
  have hlk := BodyLoose.notSynchronized Bd
  have hrt := Bd.returns
  have hml : c.maxLocals = 1 := hml0
  have hown : s.vm.findClass "com/example/prorata/prorata/request/Form$Field" = some m.cls := findClass_of_methodNamed Bd.named
  have hnm := (name_of_methodNamed Bd.named Bd.method).1
  have X0 : Stand p l e ({ frames := 0, cells := 0, slots := 0, locals := 0 } : Room) s m #[(.ref o0)] below meth c s₁ [] 0 0 := Stand.of_body Bd
  have e0 : s₁.heap = h0 := by rw [← hh, Bd.state]; rfl
  have N0 := Fr.nil n0
  have K0 : Keep h0 h0 [] := Keep.refl h0 _
  show Runs p e below (QE s (Q_rm9 Z o0 fo h0 n0) ({ frames := 0, cells := 0, slots := 0, locals := 0 } : Room).cells ({ frames := 0, cells := 0, slots := 0, locals := 0 } : Room).slots) (s₁.setTop (entryFrame m #[(.ref o0)] 1))
  rw [ef_9_7 m o0]
  show Runs p e below _ (s₁.setTop (mkF m 0 #[.val (.ref o0)] []))
  refine Runs.by (fun _ hr => XS.aloadN X0.here hx rfl (hb hby d9_0) rfl rfl hr) ?_
  show Runs p e below _ (s₁.setTop (mkF m 1 #[.val (.ref o0)] [(.ref o0)]))
  obtain ⟨T1, X1, e1, st1⟩ := getF X0 hx hZ hown (host := "") (Or.inl (hw _ (List.mem_of_getElem? (i := 48) rfl))) Via.refl e0 F0 (g := (mkF m 1 #[.val (.ref o0)] [(.ref o0)])) rfl rfl (hb hby d9_1)
  refine Runs.by st1 ?_
  show Runs p e below _ (T1.setTop (mkF m 4 #[.val (.ref o0)] [(.ref fo)]))
  refine Runs.ret X1 hx hrt hlk (Or.inr (Or.inr (Or.inr (Or.inr ⟨rfl, rfl, rfl⟩)))) rfl (hb hby d9_4) (by decide) (by decide) ?_
  rw [e1]
  exact ⟨rfl, N0, rfl⟩
def own_has : List Addr → Addr → Int32
  | [], _ => 0
  | a :: r, fo => if fo = a then 1 else own_has r fo
theorem own_has_cons (a : Addr) (r : List Addr) (fo : Addr) : own_has (a :: r) fo = if fo = a then 1 else own_has r fo := rfl
theorem own_has_01 : ∀ (l : List Addr) (fo : Addr), own_has l fo = 0 ∨ own_has l fo = 1
  | [], _ => Or.inl rfl
  | a :: r, fo => by
    by_cases h : fo = a
    · exact Or.inr (by simp [own_has, h])
    · rcases own_has_01 r fo with q | q
      · exact Or.inl (by simp [own_has, h, q])
      · exact Or.inr (by simp [own_has, h, q])
theorem d8_0 : decode prog_21_method_6_code 0 = .ok (.aload_n 1, 1) := by decide +kernel
theorem d8_1 : decode prog_21_method_6_code 1 = .ok (.invokevirtual 54, 3) := by decide +kernel
theorem d8_4 : decode prog_21_method_6_code 4 = .ok (.aload_n 0, 1) := by decide +kernel
theorem d8_5 : decode prog_21_method_6_code 5 = .ok (.if_acmp .eq 21, 3) := by decide +kernel
theorem d8_8 : decode prog_21_method_6_code 8 = .ok (.aload_n 0, 1) := by decide +kernel
theorem d8_9 : decode prog_21_method_6_code 9 = .ok (.getfield 19, 3) := by decide +kernel
theorem d8_12 : decode prog_21_method_6_code 12 = .ok (.ifnull 18, 3) := by decide +kernel
theorem d8_15 : decode prog_21_method_6_code 15 = .ok (.aload_n 0, 1) := by decide +kernel
theorem d8_16 : decode prog_21_method_6_code 16 = .ok (.getfield 19, 3) := by decide +kernel
theorem d8_19 : decode prog_21_method_6_code 19 = .ok (.aload_n 1, 1) := by decide +kernel
theorem d8_20 : decode prog_21_method_6_code 20 = .ok (.invokevirtual 58, 3) := by decide +kernel
theorem d8_23 : decode prog_21_method_6_code 23 = .ok (.ifCond .eq 7, 3) := by decide +kernel
theorem d8_26 : decode prog_21_method_6_code 26 = .ok (.iconst 1, 1) := by decide +kernel
theorem d8_27 : decode prog_21_method_6_code 27 = .ok (.goto 4, 3) := by decide +kernel
theorem d8_30 : decode prog_21_method_6_code 30 = .ok (.iconst 0, 1) := by decide +kernel
theorem d8_31 : decode prog_21_method_6_code 31 = .ok (.ireturn, 1) := by decide +kernel
theorem ef_8_8 (m : MethodId) (o0 : Addr) (o1 : Addr) : entryFrame m #[(.ref o0), (.ref o1)] 2 = mkF m 0 #[.val (.ref o0), .val (.ref o1)] [] := by first | (simp [entryFrame, mkF, argsToLocals, Value.category]; done) | rfl
def Q_rm8_1 (Z : State) (o0 : Addr) (o1 : Addr) (fo : Addr) (h0 : Heap) (n0 : Nat) (v : Option Value) (h : Heap) (L : List Loc) : Prop := v = some (.int (own_has [o0] fo)) ∧ Fr n0 L ∧ h = h0
theorem pd_2 : parseMethodDescriptor "()Lcom/example/prorata/prorata/request/Form;" = some ⟨[], some (.object "com/example/prorata/prorata/request/Form")⟩ := by decide +kernel
set_option maxRecDepth 65536 in
set_option maxHeartbeats 40000000 in
theorem rm8_1 (l : Launch) (Z : State) (a0 : Array Value) (hw : ∀ d ∈ tables_1, d.before a0 Z = true) (ws : List Jvm.Cond) (o0 : Addr) (o1 : Addr) (fo : Addr) (h0 : Heap) (n0 : Nat) (Z0 : n0 ≤ h0.size) (E1 : Exa Z h0 o1 "com/example/prorata/prorata/request/Form$Field") (F1 : Fld Z h0 o1 "com/example/prorata/prorata/request/Form$Field" "form" "Lcom/example/prorata/prorata/request/Form;" (.ref fo)) (Ec0 : Exa Z h0 o0 "com/example/prorata/prorata/request/Form") (Fc0 : Fld Z h0 o0 "com/example/prorata/prorata/request/Form" "base" "Lcom/example/prorata/prorata/request/Form;" .null) :
    MetFree l (⟨"com/example/prorata/prorata/request/Form", "has", "(Lcom/example/prorata/prorata/request/Form$Field;)Z"⟩ : MethodName) (head1 (Jvm.Cond.code (⟨"com/example/prorata/prorata/request/Form", "has", "(Lcom/example/prorata/prorata/request/Form$Field;)Z"⟩ : MethodName) prog_21_method_6_code 2 (some .boolean) :: ws) ({ frames := 1, cells := 0, slots := 0, locals := 12 } : Room)) (fun a U => a = #[(.ref o0), (.ref o1)] ∧ Z.Warmed39 U.vm ∧ U.heap = h0) (fun _ _ _ _ _ => True) (fun _ U o U' => ∃ v L, o = .returned v ∧ Q_rm8_1 Z o0 o1 fo h0 n0 v U'.heap L ∧ FrameEnd U o U' L ({ frames := 1, cells := 0, slots := 0, locals := 12 } : Room).cells ({ frames := 1, cells := 0, slots := 0, locals := 12 } : Room).slots) := by
  refine MetFree.of_bodySF (plainFor_of_name pn_com_example_prorata_prorata_request_Form) hisR ?_
  intro p e s m args below meth c s₁ Bd hml0 hP hK
  obtain ⟨rfl, hZ, hh⟩ := hP
  have hx := Bd.exec
  have hby := Bd.bytes
  have hlk := BodyLoose.notSynchronized Bd
  have hrt := Bd.returns
  have hml : c.maxLocals = 2 := hml0
  have hown : s.vm.findClass "com/example/prorata/prorata/request/Form" = some m.cls := findClass_of_methodNamed Bd.named
  have hnm := (name_of_methodNamed Bd.named Bd.method).1
  have X0 : Stand p l e ({ frames := 1, cells := 0, slots := 0, locals := 12 } : Room) s m #[(.ref o0), (.ref o1)] below meth c s₁ [] 0 0 := Stand.of_body Bd
  have e0 : s₁.heap = h0 := by rw [← hh, Bd.state]; rfl
  have N0 := Fr.nil n0
  have K0 : Keep h0 h0 [] := Keep.refl h0 _
  show Runs p e below (QE s (Q_rm8_1 Z o0 o1 fo h0 n0) ({ frames := 1, cells := 0, slots := 0, locals := 12 } : Room).cells ({ frames := 1, cells := 0, slots := 0, locals := 12 } : Room).slots) (s₁.setTop (entryFrame m #[(.ref o0), (.ref o1)] 2))
  rw [ef_8_8 m o0 o1]
  show Runs p e below _ (s₁.setTop (mkF m 0 #[.val (.ref o0), .val (.ref o1)] []))
  refine Runs.by (fun _ hr => XS.aloadN X0.here hx rfl (hb hby d8_0) rfl rfl hr) ?_
  show Runs p e below _ (s₁.setTop (mkF m 1 #[.val (.ref o0), .val (.ref o1)] [(.ref o1)]))
  obtain ⟨cq1, kq1, q1a, q1b, q1c⟩ := isOf hZ e0 E1
  obtain ⟨_, _, ⟨T1, L1, k1, n1⟩, -, X1, ⟨Lc1, hQ1, l1, y1, z1⟩, st1⟩ := X0.virtualBack hx (y := (⟨"com/example/prorata/prorata/request/Form$Field", "form", "()Lcom/example/prorata/prorata/request/Form;"⟩ : MethodName)) (z := (⟨"com/example/prorata/prorata/request/Form$Field", "form", "()Lcom/example/prorata/prorata/request/Form;"⟩ : MethodName)) hown (mvT hZ (hw _ (List.mem_of_getElem? (i := 59) rfl))) (mvT hZ (hw _ (List.mem_of_getElem? (i := 60) rfl))) (notFace_of_selects (args := #[]) (mvT hZ (hw _ (List.mem_of_getElem? (i := 62) rfl)))) (mvT hZ (hw _ (List.mem_of_getElem? (i := 62) rfl))) (mvT hZ (hw _ (List.mem_of_getElem? (i := 61) rfl))) (by decide) (backOf (W := 0) (rm9 l Z a0 hw [] o1 fo h0 n0 (Nat.le_trans Z0 K0.1) F1) hZ (hw _ (List.mem_of_getElem? (i := 63) rfl)) (hw _ (List.mem_of_getElem? (i := 38) rfl)) (by decide) (by decide)) q1a q1c (g := (mkF m 1 #[.val (.ref o0), .val (.ref o1)] [(.ref o1)])) rfl (by rw [hml]; rfl) (Steps.refl _) (argsL := []) (rest := []) (lenOf pd_2 rfl) rfl (by show 2 * 0 + _ ≤ _; exact Nat.le_of_eq rfl) (hb hby d8_1) (fun _ _ => ⟨rfl, e0, (by decide : 0 + 0 ≤ _), (by decide : 0 + 0 ≤ _)⟩)
  dsimp only [Pt.U, Pt.locs, Pt.cells, Pt.slots] at X1 l1 y1 z1 st1 hQ1
  subst l1 y1 z1
  obtain ⟨rfl, Nq1, eq1⟩ := hQ1
  have N1 := Fr.app N0 Nq1
  refine Runs.by (fun _ hr => st1.trans hr) ?_
  show Runs p e below _ (T1.setTop (mkF m 4 #[.val (.ref o0), .val (.ref o1)] [(.ref fo)]))
  refine Runs.by (fun _ hr => XS.aloadN X1.here hx rfl (hb hby d8_4) rfl rfl hr) ?_
  show Runs p e below _ (T1.setTop (mkF m 5 #[.val (.ref o0), .val (.ref o1)] [(.ref o0), (.ref fo)]))
  by_cases ha5 : fo = o0
  · -- pc 5: the same
    refine Runs.by (fun _ hr => Jvm.RoadKit.acmp (g := (mkF m 5 #[.val (.ref o0), .val (.ref o1)] [(.ref o0), (.ref fo)])) X1 hx rfl rfl rfl (pc0 := 5) (pc' := 26) (same := true) rfl (hb hby d8_5) rfl (decide_eq_true (congrArg Value.ref ha5)) (by decide) (by decide) hr) ?_
    show Runs p e below _ (T1.setTop (mkF m 26 #[.val (.ref o0), .val (.ref o1)] []))
    refine Runs.by (fun _ hr => XS.iconst X1.here hx rfl (hb hby d8_26) hr) ?_
    show Runs p e below _ (T1.setTop (mkF m 27 #[.val (.ref o0), .val (.ref o1)] [(.int (1 : Int32))]))
    refine Runs.by (fun _ hr => XS.goto X1.here hx rfl (pc0 := 27) (pc' := 31) rfl (hb hby d8_27) (by decide) (by decide) hr) ?_
    show Runs p e below _ (T1.setTop (mkF m 31 #[.val (.ref o0), .val (.ref o1)] [(.int (1 : Int32))]))
    refine Runs.ret X1 hx hrt hlk (Or.inl ⟨rfl, by simp, _, rfl⟩) (by rfl) (hb hby d8_31) (by decide) (by decide) ?_
    rw [eq1]
    refine ⟨?_, N1, rfl⟩
    first
      | (rw [own_has_cons, if_pos ha5]; done)
      | (rw [own_has_cons, if_neg ha5, hc23]; done)
      | (rw [own_has_cons, if_neg ha5, (own_has_01 _ fo).resolve_left hc23]; done)
      | (rw [own_has_cons, if_neg ha5]; rfl)
  · -- pc 5: not the same
    refine Runs.by (fun _ hr => Jvm.RoadKit.acmp (g := (mkF m 5 #[.val (.ref o0), .val (.ref o1)] [(.ref o0), (.ref fo)])) X1 hx rfl rfl rfl (pc0 := 5) (pc' := 8) (same := false) rfl (hb hby d8_5) rfl (decide_eq_false fun q => ha5 (Value.ref.inj q)) (by decide) (by decide) hr) ?_
    show Runs p e below _ (T1.setTop (mkF m 8 #[.val (.ref o0), .val (.ref o1)] []))
    refine Runs.by (fun _ hr => XS.aloadN X1.here hx rfl (hb hby d8_8) rfl rfl hr) ?_
    show Runs p e below _ (T1.setTop (mkF m 9 #[.val (.ref o0), .val (.ref o1)] [(.ref o0)]))
    obtain ⟨T2, X2, e2, st2⟩ := getF X1 hx hZ hown (host := "") (Or.inl (hw _ (List.mem_of_getElem? (i := 30) rfl))) Via.refl eq1 Fc0 (g := (mkF m 9 #[.val (.ref o0), .val (.ref o1)] [(.ref o0)])) rfl rfl (hb hby d8_9)
    refine Runs.by st2 ?_
    show Runs p e below _ (T2.setTop (mkF m 12 #[.val (.ref o0), .val (.ref o1)] [.null]))
    refine Runs.by (fun _ hr => XS.ifnullYes X2.here hx rfl (pc0 := 12) (pc' := 30) rfl (hb hby d8_12) rfl (by decide) (by decide) hr) ?_
    show Runs p e below _ (T2.setTop (mkF m 30 #[.val (.ref o0), .val (.ref o1)] []))
    refine Runs.by (fun _ hr => XS.iconst X2.here hx rfl (hb hby d8_30) hr) ?_
    show Runs p e below _ (T2.setTop (mkF m 31 #[.val (.ref o0), .val (.ref o1)] [(.int (0 : Int32))]))
    refine Runs.ret X2 hx hrt hlk (Or.inl ⟨rfl, by simp, _, rfl⟩) (by rfl) (hb hby d8_31) (by decide) (by decide) ?_
    rw [e2]
    refine ⟨?_, N1, rfl⟩
    first
      | (rw [own_has_cons, if_pos ha5]; done)
      | (rw [own_has_cons, if_neg ha5, hc23]; done)
      | (rw [own_has_cons, if_neg ha5, (own_has_01 _ fo).resolve_left hc23]; done)
      | (rw [own_has_cons, if_neg ha5]; rfl)
def Q_rm8_2 (Z : State) (o0 : Addr) (o1 : Addr) (fo c1 : Addr) (h0 : Heap) (n0 : Nat) (v : Option Value) (h : Heap) (L : List Loc) : Prop := v = some (.int (own_has [o0, c1] fo)) ∧ Fr n0 L ∧ h = h0
theorem pd_3 : parseMethodDescriptor "(Lcom/example/prorata/prorata/request/Form$Field;)Z" = some ⟨[(.object "com/example/prorata/prorata/request/Form$Field")], some .boolean⟩ := by decide +kernel
set_option maxRecDepth 65536 in
set_option maxHeartbeats 40000000 in
theorem rm8_2 (l : Launch) (Z : State) (a0 : Array Value) (hw : ∀ d ∈ tables_1, d.before a0 Z = true) (ws : List Jvm.Cond) (o0 : Addr) (o1 : Addr) (fo c1 : Addr) (h0 : Heap) (n0 : Nat) (Z0 : n0 ≤ h0.size) (E1 : Exa Z h0 o1 "com/example/prorata/prorata/request/Form$Field") (F1 : Fld Z h0 o1 "com/example/prorata/prorata/request/Form$Field" "form" "Lcom/example/prorata/prorata/request/Form;" (.ref fo)) (Ec0 : Exa Z h0 o0 "com/example/prorata/prorata/request/Form") (Fc0 : Fld Z h0 o0 "com/example/prorata/prorata/request/Form" "base" "Lcom/example/prorata/prorata/request/Form;" (.ref c1)) (Ec1 : Exa Z h0 c1 "com/example/prorata/prorata/request/Form") (Fc1 : Fld Z h0 c1 "com/example/prorata/prorata/request/Form" "base" "Lcom/example/prorata/prorata/request/Form;" .null) :
    MetFree l (⟨"com/example/prorata/prorata/request/Form", "has", "(Lcom/example/prorata/prorata/request/Form$Field;)Z"⟩ : MethodName) (head1 (Jvm.Cond.code (⟨"com/example/prorata/prorata/request/Form", "has", "(Lcom/example/prorata/prorata/request/Form$Field;)Z"⟩ : MethodName) prog_21_method_6_code 2 (some .boolean) :: ws) ({ frames := 2, cells := 0, slots := 0, locals := 25 } : Room)) (fun a U => a = #[(.ref o0), (.ref o1)] ∧ Z.Warmed39 U.vm ∧ U.heap = h0) (fun _ _ _ _ _ => True) (fun _ U o U' => ∃ v L, o = .returned v ∧ Q_rm8_2 Z o0 o1 fo c1 h0 n0 v U'.heap L ∧ FrameEnd U o U' L ({ frames := 2, cells := 0, slots := 0, locals := 25 } : Room).cells ({ frames := 2, cells := 0, slots := 0, locals := 25 } : Room).slots) := by
  refine MetFree.of_bodySF (plainFor_of_name pn_com_example_prorata_prorata_request_Form) hisR ?_
  intro p e s m args below meth c s₁ Bd hml0 hP hK
  obtain ⟨rfl, hZ, hh⟩ := hP
  have hx := Bd.exec
  have hby := Bd.bytes
  have hlk := BodyLoose.notSynchronized Bd
  have hrt := Bd.returns
  have hml : c.maxLocals = 2 := hml0
  have hown : s.vm.findClass "com/example/prorata/prorata/request/Form" = some m.cls := findClass_of_methodNamed Bd.named
  have hnm := (name_of_methodNamed Bd.named Bd.method).1
  have X0 : Stand p l e ({ frames := 2, cells := 0, slots := 0, locals := 25 } : Room) s m #[(.ref o0), (.ref o1)] below meth c s₁ [] 0 0 := Stand.of_body Bd
  have e0 : s₁.heap = h0 := by rw [← hh, Bd.state]; rfl
  have N0 := Fr.nil n0
  have K0 : Keep h0 h0 [] := Keep.refl h0 _
  show Runs p e below (QE s (Q_rm8_2 Z o0 o1 fo c1 h0 n0) ({ frames := 2, cells := 0, slots := 0, locals := 25 } : Room).cells ({ frames := 2, cells := 0, slots := 0, locals := 25 } : Room).slots) (s₁.setTop (entryFrame m #[(.ref o0), (.ref o1)] 2))
  rw [ef_8_8 m o0 o1]
  show Runs p e below _ (s₁.setTop (mkF m 0 #[.val (.ref o0), .val (.ref o1)] []))
  refine Runs.by (fun _ hr => XS.aloadN X0.here hx rfl (hb hby d8_0) rfl rfl hr) ?_
  show Runs p e below _ (s₁.setTop (mkF m 1 #[.val (.ref o0), .val (.ref o1)] [(.ref o1)]))
  obtain ⟨cq1, kq1, q1a, q1b, q1c⟩ := isOf hZ e0 E1
  obtain ⟨_, _, ⟨T1, L1, k1, n1⟩, -, X1, ⟨Lc1, hQ1, l1, y1, z1⟩, st1⟩ := X0.virtualBack hx (y := (⟨"com/example/prorata/prorata/request/Form$Field", "form", "()Lcom/example/prorata/prorata/request/Form;"⟩ : MethodName)) (z := (⟨"com/example/prorata/prorata/request/Form$Field", "form", "()Lcom/example/prorata/prorata/request/Form;"⟩ : MethodName)) hown (mvT hZ (hw _ (List.mem_of_getElem? (i := 59) rfl))) (mvT hZ (hw _ (List.mem_of_getElem? (i := 60) rfl))) (notFace_of_selects (args := #[]) (mvT hZ (hw _ (List.mem_of_getElem? (i := 62) rfl)))) (mvT hZ (hw _ (List.mem_of_getElem? (i := 62) rfl))) (mvT hZ (hw _ (List.mem_of_getElem? (i := 61) rfl))) (by decide) (backOf (W := 0) (rm9 l Z a0 hw [] o1 fo h0 n0 (Nat.le_trans Z0 K0.1) F1) hZ (hw _ (List.mem_of_getElem? (i := 63) rfl)) (hw _ (List.mem_of_getElem? (i := 38) rfl)) (by decide) (by decide)) q1a q1c (g := (mkF m 1 #[.val (.ref o0), .val (.ref o1)] [(.ref o1)])) rfl (by rw [hml]; rfl) (Steps.refl _) (argsL := []) (rest := []) (lenOf pd_2 rfl) rfl (by show 2 * 0 + _ ≤ _; exact Nat.le_of_eq rfl) (hb hby d8_1) (fun _ _ => ⟨rfl, e0, (by decide : 0 + 0 ≤ _), (by decide : 0 + 0 ≤ _)⟩)
  dsimp only [Pt.U, Pt.locs, Pt.cells, Pt.slots] at X1 l1 y1 z1 st1 hQ1
  subst l1 y1 z1
  obtain ⟨rfl, Nq1, eq1⟩ := hQ1
  have N1 := Fr.app N0 Nq1
  refine Runs.by (fun _ hr => st1.trans hr) ?_
  show Runs p e below _ (T1.setTop (mkF m 4 #[.val (.ref o0), .val (.ref o1)] [(.ref fo)]))
  refine Runs.by (fun _ hr => XS.aloadN X1.here hx rfl (hb hby d8_4) rfl rfl hr) ?_
  show Runs p e below _ (T1.setTop (mkF m 5 #[.val (.ref o0), .val (.ref o1)] [(.ref o0), (.ref fo)]))
  by_cases ha5 : fo = o0
  · -- pc 5: the same
    refine Runs.by (fun _ hr => Jvm.RoadKit.acmp (g := (mkF m 5 #[.val (.ref o0), .val (.ref o1)] [(.ref o0), (.ref fo)])) X1 hx rfl rfl rfl (pc0 := 5) (pc' := 26) (same := true) rfl (hb hby d8_5) rfl (decide_eq_true (congrArg Value.ref ha5)) (by decide) (by decide) hr) ?_
    show Runs p e below _ (T1.setTop (mkF m 26 #[.val (.ref o0), .val (.ref o1)] []))
    refine Runs.by (fun _ hr => XS.iconst X1.here hx rfl (hb hby d8_26) hr) ?_
    show Runs p e below _ (T1.setTop (mkF m 27 #[.val (.ref o0), .val (.ref o1)] [(.int (1 : Int32))]))
    refine Runs.by (fun _ hr => XS.goto X1.here hx rfl (pc0 := 27) (pc' := 31) rfl (hb hby d8_27) (by decide) (by decide) hr) ?_
    show Runs p e below _ (T1.setTop (mkF m 31 #[.val (.ref o0), .val (.ref o1)] [(.int (1 : Int32))]))
    refine Runs.ret X1 hx hrt hlk (Or.inl ⟨rfl, by simp, _, rfl⟩) (by rfl) (hb hby d8_31) (by decide) (by decide) ?_
    rw [eq1]
    refine ⟨?_, N1, rfl⟩
    first
      | (rw [own_has_cons, if_pos ha5]; done)
      | (rw [own_has_cons, if_neg ha5, hc23]; done)
      | (rw [own_has_cons, if_neg ha5, (own_has_01 _ fo).resolve_left hc23]; done)
      | (rw [own_has_cons, if_neg ha5]; rfl)
  · -- pc 5: not the same
    refine Runs.by (fun _ hr => Jvm.RoadKit.acmp (g := (mkF m 5 #[.val (.ref o0), .val (.ref o1)] [(.ref o0), (.ref fo)])) X1 hx rfl rfl rfl (pc0 := 5) (pc' := 8) (same := false) rfl (hb hby d8_5) rfl (decide_eq_false fun q => ha5 (Value.ref.inj q)) (by decide) (by decide) hr) ?_
    show Runs p e below _ (T1.setTop (mkF m 8 #[.val (.ref o0), .val (.ref o1)] []))
    refine Runs.by (fun _ hr => XS.aloadN X1.here hx rfl (hb hby d8_8) rfl rfl hr) ?_
    show Runs p e below _ (T1.setTop (mkF m 9 #[.val (.ref o0), .val (.ref o1)] [(.ref o0)]))
    obtain ⟨T2, X2, e2, st2⟩ := getF X1 hx hZ hown (host := "") (Or.inl (hw _ (List.mem_of_getElem? (i := 30) rfl))) Via.refl eq1 Fc0 (g := (mkF m 9 #[.val (.ref o0), .val (.ref o1)] [(.ref o0)])) rfl rfl (hb hby d8_9)
    refine Runs.by st2 ?_
    show Runs p e below _ (T2.setTop (mkF m 12 #[.val (.ref o0), .val (.ref o1)] [(.ref c1)]))
    refine Runs.by (fun _ hr => XS.ifnullNo X2.here hx rfl (hb hby d8_12) rfl hr) ?_
    show Runs p e below _ (T2.setTop (mkF m 15 #[.val (.ref o0), .val (.ref o1)] []))
    refine Runs.by (fun _ hr => XS.aloadN X2.here hx rfl (hb hby d8_15) rfl rfl hr) ?_
    show Runs p e below _ (T2.setTop (mkF m 16 #[.val (.ref o0), .val (.ref o1)] [(.ref o0)]))
    obtain ⟨T3, X3, e3, st3⟩ := getF X2 hx hZ hown (host := "") (Or.inl (hw _ (List.mem_of_getElem? (i := 30) rfl))) Via.refl e2 Fc0 (g := (mkF m 16 #[.val (.ref o0), .val (.ref o1)] [(.ref o0)])) rfl rfl (hb hby d8_16)
    refine Runs.by st3 ?_
    show Runs p e below _ (T3.setTop (mkF m 19 #[.val (.ref o0), .val (.ref o1)] [(.ref c1)]))
    refine Runs.by (fun _ hr => XS.aloadN X3.here hx rfl (hb hby d8_19) rfl rfl hr) ?_
    show Runs p e below _ (T3.setTop (mkF m 20 #[.val (.ref o0), .val (.ref o1)] [(.ref o1), (.ref c1)]))
    obtain ⟨cq4, kq4, q4a, q4b, q4c⟩ := isOf hZ e3 Ec1
    obtain ⟨_, _, ⟨T4, L4, k4, n4⟩, -, X4, ⟨Lc4, hQ4, l4, y4, z4⟩, st4⟩ := X3.virtualBack hx (y := (⟨"com/example/prorata/prorata/request/Form", "has", "(Lcom/example/prorata/prorata/request/Form$Field;)Z"⟩ : MethodName)) (z := (⟨"com/example/prorata/prorata/request/Form", "has", "(Lcom/example/prorata/prorata/request/Form$Field;)Z"⟩ : MethodName)) hown (mvT hZ (hw _ (List.mem_of_getElem? (i := 68) rfl))) (mvT hZ (hw _ (List.mem_of_getElem? (i := 55) rfl))) (notFace_of_selects (args := #[]) (mvT hZ (hw _ (List.mem_of_getElem? (i := 57) rfl)))) (mvT hZ (hw _ (List.mem_of_getElem? (i := 57) rfl))) (mvT hZ (hw _ (List.mem_of_getElem? (i := 56) rfl))) (by decide) (backOf (W := 0) (rm8_1 l Z a0 hw [] c1 o1 fo h0 n0 (Nat.le_trans Z0 K0.1) E1 F1 Ec1 Fc1) hZ (hw _ (List.mem_of_getElem? (i := 58) rfl)) (hw _ (List.mem_of_getElem? (i := 2) rfl)) (by decide) (by decide)) q4a q4c (g := (mkF m 20 #[.val (.ref o0), .val (.ref o1)] [(.ref o1), (.ref c1)])) rfl (by rw [hml]; rfl) (Steps.refl _) (argsL := [(.ref o1)]) (rest := []) (lenOf pd_3 rfl) rfl (by show 2 * 0 + _ ≤ _; exact Nat.le_of_eq rfl) (hb hby d8_20) (fun _ _ => ⟨rfl, e3, (by decide : 0 + 0 ≤ _), (by decide : 0 + 0 ≤ _)⟩)
    dsimp only [Pt.U, Pt.locs, Pt.cells, Pt.slots] at X4 l4 y4 z4 st4 hQ4
    subst l4 y4 z4
    obtain ⟨rfl, Nq4, eq4⟩ := hQ4
    have N4 := Fr.app N1 Nq4
    refine Runs.by (fun _ hr => st4.trans hr) ?_
    show Runs p e below _ (T4.setTop (mkF m 23 #[.val (.ref o0), .val (.ref o1)] [(.int (own_has [c1] fo))]))
    by_cases hc23 : (own_has [c1] fo) = (0 : Int32)
    · -- pc 23: (own_has [c1] fo) = (0 : Int32)
      refine Runs.by (fun _ hr => XS.ifYes X4.here hx rfl (pc0 := 23) (pc' := 30) rfl (hb hby d8_23) rfl ((if0 _ _).trans (teq hc23).1) (by decide) (by decide) hr) ?_
      show Runs p e below _ (T4.setTop (mkF m 30 #[.val (.ref o0), .val (.ref o1)] []))
      refine Runs.by (fun _ hr => XS.iconst X4.here hx rfl (hb hby d8_30) hr) ?_
      show Runs p e below _ (T4.setTop (mkF m 31 #[.val (.ref o0), .val (.ref o1)] [(.int (0 : Int32))]))
      refine Runs.ret X4 hx hrt hlk (Or.inl ⟨rfl, by simp, _, rfl⟩) (by rfl) (hb hby d8_31) (by decide) (by decide) ?_
      rw [eq4]
      refine ⟨?_, N4, rfl⟩
      first
        | (rw [own_has_cons, if_pos ha5]; done)
        | (rw [own_has_cons, if_neg ha5, hc23]; done)
        | (rw [own_has_cons, if_neg ha5, (own_has_01 _ fo).resolve_left hc23]; done)
        | (rw [own_has_cons, if_neg ha5]; rfl)
    · -- pc 23: not (own_has [c1] fo) = (0 : Int32)
      refine Runs.by (fun _ hr => XS.ifNo X4.here hx rfl (hb hby d8_23) rfl ((if0 _ _).trans (feq hc23).1) hr) ?_
      show Runs p e below _ (T4.setTop (mkF m 26 #[.val (.ref o0), .val (.ref o1)] []))
      refine Runs.by (fun _ hr => XS.iconst X4.here hx rfl (hb hby d8_26) hr) ?_
      show Runs p e below _ (T4.setTop (mkF m 27 #[.val (.ref o0), .val (.ref o1)] [(.int (1 : Int32))]))
      refine Runs.by (fun _ hr => XS.goto X4.here hx rfl (pc0 := 27) (pc' := 31) rfl (hb hby d8_27) (by decide) (by decide) hr) ?_
      show Runs p e below _ (T4.setTop (mkF m 31 #[.val (.ref o0), .val (.ref o1)] [(.int (1 : Int32))]))
      refine Runs.ret X4 hx hrt hlk (Or.inl ⟨rfl, by simp, _, rfl⟩) (by rfl) (hb hby d8_31) (by decide) (by decide) ?_
      rw [eq4]
      refine ⟨?_, N4, rfl⟩
      first
        | (rw [own_has_cons, if_pos ha5]; done)
        | (rw [own_has_cons, if_neg ha5, hc23]; done)
        | (rw [own_has_cons, if_neg ha5, (own_has_01 _ fo).resolve_left hc23]; done)
        | (rw [own_has_cons, if_neg ha5]; rfl)
def Q_rm8_3 (Z : State) (o0 : Addr) (o1 : Addr) (fo c1 c2 : Addr) (h0 : Heap) (n0 : Nat) (v : Option Value) (h : Heap) (L : List Loc) : Prop := v = some (.int (own_has [o0, c1, c2] fo)) ∧ Fr n0 L ∧ h = h0
set_option maxRecDepth 65536 in
set_option maxHeartbeats 40000000 in
theorem rm8_3 (l : Launch) (Z : State) (a0 : Array Value) (hw : ∀ d ∈ tables_1, d.before a0 Z = true) (ws : List Jvm.Cond) (o0 : Addr) (o1 : Addr) (fo c1 c2 : Addr) (h0 : Heap) (n0 : Nat) (Z0 : n0 ≤ h0.size) (E1 : Exa Z h0 o1 "com/example/prorata/prorata/request/Form$Field") (F1 : Fld Z h0 o1 "com/example/prorata/prorata/request/Form$Field" "form" "Lcom/example/prorata/prorata/request/Form;" (.ref fo)) (Ec0 : Exa Z h0 o0 "com/example/prorata/prorata/request/Form") (Fc0 : Fld Z h0 o0 "com/example/prorata/prorata/request/Form" "base" "Lcom/example/prorata/prorata/request/Form;" (.ref c1)) (Ec1 : Exa Z h0 c1 "com/example/prorata/prorata/request/Form") (Fc1 : Fld Z h0 c1 "com/example/prorata/prorata/request/Form" "base" "Lcom/example/prorata/prorata/request/Form;" (.ref c2)) (Ec2 : Exa Z h0 c2 "com/example/prorata/prorata/request/Form") (Fc2 : Fld Z h0 c2 "com/example/prorata/prorata/request/Form" "base" "Lcom/example/prorata/prorata/request/Form;" .null) :
    MetFree l (⟨"com/example/prorata/prorata/request/Form", "has", "(Lcom/example/prorata/prorata/request/Form$Field;)Z"⟩ : MethodName) (head1 (Jvm.Cond.code (⟨"com/example/prorata/prorata/request/Form", "has", "(Lcom/example/prorata/prorata/request/Form$Field;)Z"⟩ : MethodName) prog_21_method_6_code 2 (some .boolean) :: ws) ({ frames := 3, cells := 0, slots := 0, locals := 38 } : Room)) (fun a U => a = #[(.ref o0), (.ref o1)] ∧ Z.Warmed39 U.vm ∧ U.heap = h0) (fun _ _ _ _ _ => True) (fun _ U o U' => ∃ v L, o = .returned v ∧ Q_rm8_3 Z o0 o1 fo c1 c2 h0 n0 v U'.heap L ∧ FrameEnd U o U' L ({ frames := 3, cells := 0, slots := 0, locals := 38 } : Room).cells ({ frames := 3, cells := 0, slots := 0, locals := 38 } : Room).slots) := by
  refine MetFree.of_bodySF (plainFor_of_name pn_com_example_prorata_prorata_request_Form) hisR ?_
  intro p e s m args below meth c s₁ Bd hml0 hP hK
  obtain ⟨rfl, hZ, hh⟩ := hP
  have hx := Bd.exec
  have hby := Bd.bytes
  have hlk := BodyLoose.notSynchronized Bd
  have hrt := Bd.returns
  have hml : c.maxLocals = 2 := hml0
  have hown : s.vm.findClass "com/example/prorata/prorata/request/Form" = some m.cls := findClass_of_methodNamed Bd.named
  have hnm := (name_of_methodNamed Bd.named Bd.method).1
  have X0 : Stand p l e ({ frames := 3, cells := 0, slots := 0, locals := 38 } : Room) s m #[(.ref o0), (.ref o1)] below meth c s₁ [] 0 0 := Stand.of_body Bd
  have e0 : s₁.heap = h0 := by rw [← hh, Bd.state]; rfl
  have N0 := Fr.nil n0
  have K0 : Keep h0 h0 [] := Keep.refl h0 _
  show Runs p e below (QE s (Q_rm8_3 Z o0 o1 fo c1 c2 h0 n0) ({ frames := 3, cells := 0, slots := 0, locals := 38 } : Room).cells ({ frames := 3, cells := 0, slots := 0, locals := 38 } : Room).slots) (s₁.setTop (entryFrame m #[(.ref o0), (.ref o1)] 2))
  rw [ef_8_8 m o0 o1]
  show Runs p e below _ (s₁.setTop (mkF m 0 #[.val (.ref o0), .val (.ref o1)] []))
  refine Runs.by (fun _ hr => XS.aloadN X0.here hx rfl (hb hby d8_0) rfl rfl hr) ?_
  show Runs p e below _ (s₁.setTop (mkF m 1 #[.val (.ref o0), .val (.ref o1)] [(.ref o1)]))
  obtain ⟨cq1, kq1, q1a, q1b, q1c⟩ := isOf hZ e0 E1
  obtain ⟨_, _, ⟨T1, L1, k1, n1⟩, -, X1, ⟨Lc1, hQ1, l1, y1, z1⟩, st1⟩ := X0.virtualBack hx (y := (⟨"com/example/prorata/prorata/request/Form$Field", "form", "()Lcom/example/prorata/prorata/request/Form;"⟩ : MethodName)) (z := (⟨"com/example/prorata/prorata/request/Form$Field", "form", "()Lcom/example/prorata/prorata/request/Form;"⟩ : MethodName)) hown (mvT hZ (hw _ (List.mem_of_getElem? (i := 59) rfl))) (mvT hZ (hw _ (List.mem_of_getElem? (i := 60) rfl))) (notFace_of_selects (args := #[]) (mvT hZ (hw _ (List.mem_of_getElem? (i := 62) rfl)))) (mvT hZ (hw _ (List.mem_of_getElem? (i := 62) rfl))) (mvT hZ (hw _ (List.mem_of_getElem? (i := 61) rfl))) (by decide) (backOf (W := 0) (rm9 l Z a0 hw [] o1 fo h0 n0 (Nat.le_trans Z0 K0.1) F1) hZ (hw _ (List.mem_of_getElem? (i := 63) rfl)) (hw _ (List.mem_of_getElem? (i := 38) rfl)) (by decide) (by decide)) q1a q1c (g := (mkF m 1 #[.val (.ref o0), .val (.ref o1)] [(.ref o1)])) rfl (by rw [hml]; rfl) (Steps.refl _) (argsL := []) (rest := []) (lenOf pd_2 rfl) rfl (by show 2 * 0 + _ ≤ _; exact Nat.le_of_eq rfl) (hb hby d8_1) (fun _ _ => ⟨rfl, e0, (by decide : 0 + 0 ≤ _), (by decide : 0 + 0 ≤ _)⟩)
  dsimp only [Pt.U, Pt.locs, Pt.cells, Pt.slots] at X1 l1 y1 z1 st1 hQ1
  subst l1 y1 z1
  obtain ⟨rfl, Nq1, eq1⟩ := hQ1
  have N1 := Fr.app N0 Nq1
  refine Runs.by (fun _ hr => st1.trans hr) ?_
  show Runs p e below _ (T1.setTop (mkF m 4 #[.val (.ref o0), .val (.ref o1)] [(.ref fo)]))
  refine Runs.by (fun _ hr => XS.aloadN X1.here hx rfl (hb hby d8_4) rfl rfl hr) ?_
  show Runs p e below _ (T1.setTop (mkF m 5 #[.val (.ref o0), .val (.ref o1)] [(.ref o0), (.ref fo)]))
  by_cases ha5 : fo = o0
  · -- pc 5: the same
    refine Runs.by (fun _ hr => Jvm.RoadKit.acmp (g := (mkF m 5 #[.val (.ref o0), .val (.ref o1)] [(.ref o0), (.ref fo)])) X1 hx rfl rfl rfl (pc0 := 5) (pc' := 26) (same := true) rfl (hb hby d8_5) rfl (decide_eq_true (congrArg Value.ref ha5)) (by decide) (by decide) hr) ?_
    show Runs p e below _ (T1.setTop (mkF m 26 #[.val (.ref o0), .val (.ref o1)] []))
    refine Runs.by (fun _ hr => XS.iconst X1.here hx rfl (hb hby d8_26) hr) ?_
    show Runs p e below _ (T1.setTop (mkF m 27 #[.val (.ref o0), .val (.ref o1)] [(.int (1 : Int32))]))
    refine Runs.by (fun _ hr => XS.goto X1.here hx rfl (pc0 := 27) (pc' := 31) rfl (hb hby d8_27) (by decide) (by decide) hr) ?_
    show Runs p e below _ (T1.setTop (mkF m 31 #[.val (.ref o0), .val (.ref o1)] [(.int (1 : Int32))]))
    refine Runs.ret X1 hx hrt hlk (Or.inl ⟨rfl, by simp, _, rfl⟩) (by rfl) (hb hby d8_31) (by decide) (by decide) ?_
    rw [eq1]
    refine ⟨?_, N1, rfl⟩
    first
      | (rw [own_has_cons, if_pos ha5]; done)
      | (rw [own_has_cons, if_neg ha5, hc23]; done)
      | (rw [own_has_cons, if_neg ha5, (own_has_01 _ fo).resolve_left hc23]; done)
      | (rw [own_has_cons, if_neg ha5]; rfl)
  · -- pc 5: not the same
    refine Runs.by (fun _ hr => Jvm.RoadKit.acmp (g := (mkF m 5 #[.val (.ref o0), .val (.ref o1)] [(.ref o0), (.ref fo)])) X1 hx rfl rfl rfl (pc0 := 5) (pc' := 8) (same := false) rfl (hb hby d8_5) rfl (decide_eq_false fun q => ha5 (Value.ref.inj q)) (by decide) (by decide) hr) ?_
    show Runs p e below _ (T1.setTop (mkF m 8 #[.val (.ref o0), .val (.ref o1)] []))
    refine Runs.by (fun _ hr => XS.aloadN X1.here hx rfl (hb hby d8_8) rfl rfl hr) ?_
    show Runs p e below _ (T1.setTop (mkF m 9 #[.val (.ref o0), .val (.ref o1)] [(.ref o0)]))
    obtain ⟨T2, X2, e2, st2⟩ := getF X1 hx hZ hown (host := "") (Or.inl (hw _ (List.mem_of_getElem? (i := 30) rfl))) Via.refl eq1 Fc0 (g := (mkF m 9 #[.val (.ref o0), .val (.ref o1)] [(.ref o0)])) rfl rfl (hb hby d8_9)
    refine Runs.by st2 ?_
    show Runs p e below _ (T2.setTop (mkF m 12 #[.val (.ref o0), .val (.ref o1)] [(.ref c1)]))
    refine Runs.by (fun _ hr => XS.ifnullNo X2.here hx rfl (hb hby d8_12) rfl hr) ?_
    show Runs p e below _ (T2.setTop (mkF m 15 #[.val (.ref o0), .val (.ref o1)] []))
    refine Runs.by (fun _ hr => XS.aloadN X2.here hx rfl (hb hby d8_15) rfl rfl hr) ?_
    show Runs p e below _ (T2.setTop (mkF m 16 #[.val (.ref o0), .val (.ref o1)] [(.ref o0)]))
    obtain ⟨T3, X3, e3, st3⟩ := getF X2 hx hZ hown (host := "") (Or.inl (hw _ (List.mem_of_getElem? (i := 30) rfl))) Via.refl e2 Fc0 (g := (mkF m 16 #[.val (.ref o0), .val (.ref o1)] [(.ref o0)])) rfl rfl (hb hby d8_16)
    refine Runs.by st3 ?_
    show Runs p e below _ (T3.setTop (mkF m 19 #[.val (.ref o0), .val (.ref o1)] [(.ref c1)]))
    refine Runs.by (fun _ hr => XS.aloadN X3.here hx rfl (hb hby d8_19) rfl rfl hr) ?_
    show Runs p e below _ (T3.setTop (mkF m 20 #[.val (.ref o0), .val (.ref o1)] [(.ref o1), (.ref c1)]))
    obtain ⟨cq4, kq4, q4a, q4b, q4c⟩ := isOf hZ e3 Ec1
    obtain ⟨_, _, ⟨T4, L4, k4, n4⟩, -, X4, ⟨Lc4, hQ4, l4, y4, z4⟩, st4⟩ := X3.virtualBack hx (y := (⟨"com/example/prorata/prorata/request/Form", "has", "(Lcom/example/prorata/prorata/request/Form$Field;)Z"⟩ : MethodName)) (z := (⟨"com/example/prorata/prorata/request/Form", "has", "(Lcom/example/prorata/prorata/request/Form$Field;)Z"⟩ : MethodName)) hown (mvT hZ (hw _ (List.mem_of_getElem? (i := 68) rfl))) (mvT hZ (hw _ (List.mem_of_getElem? (i := 55) rfl))) (notFace_of_selects (args := #[]) (mvT hZ (hw _ (List.mem_of_getElem? (i := 57) rfl)))) (mvT hZ (hw _ (List.mem_of_getElem? (i := 57) rfl))) (mvT hZ (hw _ (List.mem_of_getElem? (i := 56) rfl))) (by decide) (backOf (W := 0) (rm8_2 l Z a0 hw [] c1 o1 fo c2 h0 n0 (Nat.le_trans Z0 K0.1) E1 F1 Ec1 Fc1 Ec2 Fc2) hZ (hw _ (List.mem_of_getElem? (i := 58) rfl)) (hw _ (List.mem_of_getElem? (i := 2) rfl)) (by decide) (by decide)) q4a q4c (g := (mkF m 20 #[.val (.ref o0), .val (.ref o1)] [(.ref o1), (.ref c1)])) rfl (by rw [hml]; rfl) (Steps.refl _) (argsL := [(.ref o1)]) (rest := []) (lenOf pd_3 rfl) rfl (by show 2 * 0 + _ ≤ _; exact Nat.le_of_eq rfl) (hb hby d8_20) (fun _ _ => ⟨rfl, e3, (by decide : 0 + 0 ≤ _), (by decide : 0 + 0 ≤ _)⟩)
    dsimp only [Pt.U, Pt.locs, Pt.cells, Pt.slots] at X4 l4 y4 z4 st4 hQ4
    subst l4 y4 z4
    obtain ⟨rfl, Nq4, eq4⟩ := hQ4
    have N4 := Fr.app N1 Nq4
    refine Runs.by (fun _ hr => st4.trans hr) ?_
    show Runs p e below _ (T4.setTop (mkF m 23 #[.val (.ref o0), .val (.ref o1)] [(.int (own_has [c1, c2] fo))]))
    by_cases hc23 : (own_has [c1, c2] fo) = (0 : Int32)
    · -- pc 23: (own_has [c1, c2] fo) = (0 : Int32)
      refine Runs.by (fun _ hr => XS.ifYes X4.here hx rfl (pc0 := 23) (pc' := 30) rfl (hb hby d8_23) rfl ((if0 _ _).trans (teq hc23).1) (by decide) (by decide) hr) ?_
      show Runs p e below _ (T4.setTop (mkF m 30 #[.val (.ref o0), .val (.ref o1)] []))
      refine Runs.by (fun _ hr => XS.iconst X4.here hx rfl (hb hby d8_30) hr) ?_
      show Runs p e below _ (T4.setTop (mkF m 31 #[.val (.ref o0), .val (.ref o1)] [(.int (0 : Int32))]))
      refine Runs.ret X4 hx hrt hlk (Or.inl ⟨rfl, by simp, _, rfl⟩) (by rfl) (hb hby d8_31) (by decide) (by decide) ?_
      rw [eq4]
      refine ⟨?_, N4, rfl⟩
      first
        | (rw [own_has_cons, if_pos ha5]; done)
        | (rw [own_has_cons, if_neg ha5, hc23]; done)
        | (rw [own_has_cons, if_neg ha5, (own_has_01 _ fo).resolve_left hc23]; done)
        | (rw [own_has_cons, if_neg ha5]; rfl)
    · -- pc 23: not (own_has [c1, c2] fo) = (0 : Int32)
      refine Runs.by (fun _ hr => XS.ifNo X4.here hx rfl (hb hby d8_23) rfl ((if0 _ _).trans (feq hc23).1) hr) ?_
      show Runs p e below _ (T4.setTop (mkF m 26 #[.val (.ref o0), .val (.ref o1)] []))
      refine Runs.by (fun _ hr => XS.iconst X4.here hx rfl (hb hby d8_26) hr) ?_
      show Runs p e below _ (T4.setTop (mkF m 27 #[.val (.ref o0), .val (.ref o1)] [(.int (1 : Int32))]))
      refine Runs.by (fun _ hr => XS.goto X4.here hx rfl (pc0 := 27) (pc' := 31) rfl (hb hby d8_27) (by decide) (by decide) hr) ?_
      show Runs p e below _ (T4.setTop (mkF m 31 #[.val (.ref o0), .val (.ref o1)] [(.int (1 : Int32))]))
      refine Runs.ret X4 hx hrt hlk (Or.inl ⟨rfl, by simp, _, rfl⟩) (by rfl) (hb hby d8_31) (by decide) (by decide) ?_
      rw [eq4]
      refine ⟨?_, N4, rfl⟩
      first
        | (rw [own_has_cons, if_pos ha5]; done)
        | (rw [own_has_cons, if_neg ha5, hc23]; done)
        | (rw [own_has_cons, if_neg ha5, (own_has_01 _ fo).resolve_left hc23]; done)
        | (rw [own_has_cons, if_neg ha5]; rfl)
def own_reach (r o : Int32) : Int32 := if r = o then 1 else if o = 0 then (if r = 1 then 1 else if r = 2 then 1 else if r = 3 then 1 else 0) else if o = 1 then (if r = 2 then 1 else 0) else 0
theorem d10_0 : decode method_2_code 0 = .ok (.iload_n 0, 1) := by decide +kernel
theorem d10_1 : decode method_2_code 1 = .ok (.iload_n 1, 1) := by decide +kernel
theorem d10_2 : decode method_2_code 2 = .ok (.if_icmp .ne 5, 3) := by decide +kernel
theorem d10_5 : decode method_2_code 5 = .ok (.iconst 1, 1) := by decide +kernel
theorem d10_6 : decode method_2_code 6 = .ok (.ireturn, 1) := by decide +kernel
theorem d10_7 : decode method_2_code 7 = .ok (.iload_n 1, 1) := by decide +kernel
theorem d10_8 : decode method_2_code 8 = .ok (.ifCond .ne 24, 3) := by decide +kernel
theorem d10_11 : decode method_2_code 11 = .ok (.iload_n 0, 1) := by decide +kernel
theorem d10_12 : decode method_2_code 12 = .ok (.iconst 1, 1) := by decide +kernel
theorem d10_13 : decode method_2_code 13 = .ok (.if_icmp .eq 13, 3) := by decide +kernel
theorem d10_16 : decode method_2_code 16 = .ok (.iload_n 0, 1) := by decide +kernel
theorem d10_17 : decode method_2_code 17 = .ok (.iconst 2, 1) := by decide +kernel
theorem d10_18 : decode method_2_code 18 = .ok (.if_icmp .eq 8, 3) := by decide +kernel
theorem d10_21 : decode method_2_code 21 = .ok (.iload_n 0, 1) := by decide +kernel
theorem d10_22 : decode method_2_code 22 = .ok (.iconst 3, 1) := by decide +kernel
theorem d10_23 : decode method_2_code 23 = .ok (.if_icmp .ne 7, 3) := by decide +kernel
theorem d10_26 : decode method_2_code 26 = .ok (.iconst 1, 1) := by decide +kernel
theorem d10_27 : decode method_2_code 27 = .ok (.goto 4, 3) := by decide +kernel
theorem d10_30 : decode method_2_code 30 = .ok (.iconst 0, 1) := by decide +kernel
theorem d10_31 : decode method_2_code 31 = .ok (.ireturn, 1) := by decide +kernel
theorem d10_32 : decode method_2_code 32 = .ok (.iload_n 1, 1) := by decide +kernel
theorem d10_33 : decode method_2_code 33 = .ok (.iconst 1, 1) := by decide +kernel
theorem d10_34 : decode method_2_code 34 = .ok (.if_icmp .ne 14, 3) := by decide +kernel
theorem d10_37 : decode method_2_code 37 = .ok (.iload_n 0, 1) := by decide +kernel
theorem d10_38 : decode method_2_code 38 = .ok (.iconst 2, 1) := by decide +kernel
theorem d10_39 : decode method_2_code 39 = .ok (.if_icmp .ne 7, 3) := by decide +kernel
theorem d10_42 : decode method_2_code 42 = .ok (.iconst 1, 1) := by decide +kernel
theorem d10_43 : decode method_2_code 43 = .ok (.goto 4, 3) := by decide +kernel
theorem d10_46 : decode method_2_code 46 = .ok (.iconst 0, 1) := by decide +kernel
theorem d10_47 : decode method_2_code 47 = .ok (.ireturn, 1) := by decide +kernel
theorem d10_48 : decode method_2_code 48 = .ok (.iconst 0, 1) := by decide +kernel
theorem d10_49 : decode method_2_code 49 = .ok (.ireturn, 1) := by decide +kernel
theorem ef_10_9 (m : MethodId) (p0 : Int32) (p1 : Int32) : entryFrame m #[(.int p0), (.int p1)] 2 = mkF m 0 #[.val (.int p0), .val (.int p1)] [] := by first | (simp [entryFrame, mkF, argsToLocals, Value.category]; done) | rfl
theorem pn_com_example_prorata_prorata_request_FormHasPinLaw : plainName "com/example/prorata/prorata/request/FormHasPinLaw" = true := by first | (simp [plainName, overriddenIn]; done) | decide +kernel
def Q_rm10 (Z : State) (p0 : Int32) (p1 : Int32)  (h0 : Heap) (n0 : Nat) (v : Option Value) (h : Heap) (L : List Loc) : Prop := v = some (.int (own_reach p0 p1)) ∧ Fr n0 L ∧ h = h0
set_option maxRecDepth 65536 in
set_option maxHeartbeats 40000000 in
theorem rm10 (l : Launch) (Z : State) (a0 : Array Value) (hw : ∀ d ∈ tables_1, d.before a0 Z = true) (ws : List Jvm.Cond) (p0 : Int32) (p1 : Int32)  (h0 : Heap) (n0 : Nat) (Z0 : n0 ≤ h0.size) :
    MetFree l (⟨"com/example/prorata/prorata/request/FormHasPinLaw", "reaches", "(II)Z"⟩ : MethodName) (head1 (Jvm.Cond.code (⟨"com/example/prorata/prorata/request/FormHasPinLaw", "reaches", "(II)Z"⟩ : MethodName) method_2_code 2 (some .boolean) :: ws) ({ frames := 0, cells := 0, slots := 0, locals := 0 } : Room)) (fun a U => a = #[(.int p0), (.int p1)] ∧ Z.Warmed39 U.vm ∧ U.heap = h0) (fun _ _ _ _ _ => True) (fun _ U o U' => ∃ v L, o = .returned v ∧ Q_rm10 Z p0 p1 h0 n0 v U'.heap L ∧ FrameEnd U o U' L ({ frames := 0, cells := 0, slots := 0, locals := 0 } : Room).cells ({ frames := 0, cells := 0, slots := 0, locals := 0 } : Room).slots) := by
  refine MetFree.of_bodySF (plainFor_of_name pn_com_example_prorata_prorata_request_FormHasPinLaw) hisR ?_
  intro p e s m args below meth c s₁ Bd hml0 hP hK
  obtain ⟨rfl, hZ, hh⟩ := hP
  have hx := Bd.exec
  have hby := Bd.bytes
  have hlk := BodyLoose.notSynchronized Bd
  have hrt := Bd.returns
  have hml : c.maxLocals = 2 := hml0
  have hown : s.vm.findClass "com/example/prorata/prorata/request/FormHasPinLaw" = some m.cls := findClass_of_methodNamed Bd.named
  have hnm := (name_of_methodNamed Bd.named Bd.method).1
  have X0 : Stand p l e ({ frames := 0, cells := 0, slots := 0, locals := 0 } : Room) s m #[(.int p0), (.int p1)] below meth c s₁ [] 0 0 := Stand.of_body Bd
  have e0 : s₁.heap = h0 := by rw [← hh, Bd.state]; rfl
  have N0 := Fr.nil n0
  have K0 : Keep h0 h0 [] := Keep.refl h0 _
  show Runs p e below (QE s (Q_rm10 Z p0 p1 h0 n0) ({ frames := 0, cells := 0, slots := 0, locals := 0 } : Room).cells ({ frames := 0, cells := 0, slots := 0, locals := 0 } : Room).slots) (s₁.setTop (entryFrame m #[(.int p0), (.int p1)] 2))
  rw [ef_10_9 m p0 p1]
  show Runs p e below _ (s₁.setTop (mkF m 0 #[.val (.int p0), .val (.int p1)] []))
  refine Runs.by (fun _ hr => XS.iloadN X0.here hx rfl (hb hby d10_0) rfl  hr) ?_
  show Runs p e below _ (s₁.setTop (mkF m 1 #[.val (.int p0), .val (.int p1)] [(.int p0)]))
  refine Runs.by (fun _ hr => XS.iloadN X0.here hx rfl (hb hby d10_1) rfl  hr) ?_
  show Runs p e below _ (s₁.setTop (mkF m 2 #[.val (.int p0), .val (.int p1)] [(.int p1), (.int p0)]))
  by_cases hc2 : p0 = p1
  · -- pc 2: p0 = p1
    refine Runs.by (fun _ hr => XS.icmpNo X0.here hx rfl (hb hby d10_2) rfl (teq hc2).2 hr) ?_
    show Runs p e below _ (s₁.setTop (mkF m 5 #[.val (.int p0), .val (.int p1)] []))
    refine Runs.by (fun _ hr => XS.iconst X0.here hx rfl (hb hby d10_5) hr) ?_
    show Runs p e below _ (s₁.setTop (mkF m 6 #[.val (.int p0), .val (.int p1)] [(.int (1 : Int32))]))
    refine Runs.ret X0 hx hrt hlk (Or.inl ⟨rfl, by simp, _, rfl⟩) (by rfl) (hb hby d10_6) (by decide) (by decide) ?_
    rw [e0]
    refine ⟨?_, N0, rfl⟩
    first | (simp [own_reach, *]; done) | (simp only [own_reach]; simp_all)
  · -- pc 2: not p0 = p1
    refine Runs.by (fun _ hr => XS.icmpYes X0.here hx rfl (pc0 := 2) (pc' := 7) rfl (hb hby d10_2) rfl (feq hc2).2 (by decide) (by decide) hr) ?_
    show Runs p e below _ (s₁.setTop (mkF m 7 #[.val (.int p0), .val (.int p1)] []))
    refine Runs.by (fun _ hr => XS.iloadN X0.here hx rfl (hb hby d10_7) rfl  hr) ?_
    show Runs p e below _ (s₁.setTop (mkF m 8 #[.val (.int p0), .val (.int p1)] [(.int p1)]))
    by_cases hc8 : p1 = (0 : Int32)
    · -- pc 8: p1 = (0 : Int32)
      refine Runs.by (fun _ hr => XS.ifNo X0.here hx rfl (hb hby d10_8) rfl ((if0 _ _).trans (teq hc8).2) hr) ?_
      show Runs p e below _ (s₁.setTop (mkF m 11 #[.val (.int p0), .val (.int p1)] []))
      refine Runs.by (fun _ hr => XS.iloadN X0.here hx rfl (hb hby d10_11) rfl  hr) ?_
      show Runs p e below _ (s₁.setTop (mkF m 12 #[.val (.int p0), .val (.int p1)] [(.int p0)]))
      refine Runs.by (fun _ hr => XS.iconst X0.here hx rfl (hb hby d10_12) hr) ?_
      show Runs p e below _ (s₁.setTop (mkF m 13 #[.val (.int p0), .val (.int p1)] [(.int (1 : Int32)), (.int p0)]))
      by_cases hc13 : p0 = (1 : Int32)
      · -- pc 13: p0 = (1 : Int32)
        refine Runs.by (fun _ hr => XS.icmpYes X0.here hx rfl (pc0 := 13) (pc' := 26) rfl (hb hby d10_13) rfl (teq hc13).1 (by decide) (by decide) hr) ?_
        show Runs p e below _ (s₁.setTop (mkF m 26 #[.val (.int p0), .val (.int p1)] []))
        refine Runs.by (fun _ hr => XS.iconst X0.here hx rfl (hb hby d10_26) hr) ?_
        show Runs p e below _ (s₁.setTop (mkF m 27 #[.val (.int p0), .val (.int p1)] [(.int (1 : Int32))]))
        refine Runs.by (fun _ hr => XS.goto X0.here hx rfl (pc0 := 27) (pc' := 31) rfl (hb hby d10_27) (by decide) (by decide) hr) ?_
        show Runs p e below _ (s₁.setTop (mkF m 31 #[.val (.int p0), .val (.int p1)] [(.int (1 : Int32))]))
        refine Runs.ret X0 hx hrt hlk (Or.inl ⟨rfl, by simp, _, rfl⟩) (by rfl) (hb hby d10_31) (by decide) (by decide) ?_
        rw [e0]
        refine ⟨?_, N0, rfl⟩
        first | (simp [own_reach, *]; done) | (simp only [own_reach]; simp_all)
      · -- pc 13: not p0 = (1 : Int32)
        refine Runs.by (fun _ hr => XS.icmpNo X0.here hx rfl (hb hby d10_13) rfl (feq hc13).1 hr) ?_
        show Runs p e below _ (s₁.setTop (mkF m 16 #[.val (.int p0), .val (.int p1)] []))
        refine Runs.by (fun _ hr => XS.iloadN X0.here hx rfl (hb hby d10_16) rfl  hr) ?_
        show Runs p e below _ (s₁.setTop (mkF m 17 #[.val (.int p0), .val (.int p1)] [(.int p0)]))
        refine Runs.by (fun _ hr => XS.iconst X0.here hx rfl (hb hby d10_17) hr) ?_
        show Runs p e below _ (s₁.setTop (mkF m 18 #[.val (.int p0), .val (.int p1)] [(.int (2 : Int32)), (.int p0)]))
        by_cases hc18 : p0 = (2 : Int32)
        · -- pc 18: p0 = (2 : Int32)
          refine Runs.by (fun _ hr => XS.icmpYes X0.here hx rfl (pc0 := 18) (pc' := 26) rfl (hb hby d10_18) rfl (teq hc18).1 (by decide) (by decide) hr) ?_
          show Runs p e below _ (s₁.setTop (mkF m 26 #[.val (.int p0), .val (.int p1)] []))
          refine Runs.by (fun _ hr => XS.iconst X0.here hx rfl (hb hby d10_26) hr) ?_
          show Runs p e below _ (s₁.setTop (mkF m 27 #[.val (.int p0), .val (.int p1)] [(.int (1 : Int32))]))
          refine Runs.by (fun _ hr => XS.goto X0.here hx rfl (pc0 := 27) (pc' := 31) rfl (hb hby d10_27) (by decide) (by decide) hr) ?_
          show Runs p e below _ (s₁.setTop (mkF m 31 #[.val (.int p0), .val (.int p1)] [(.int (1 : Int32))]))
          refine Runs.ret X0 hx hrt hlk (Or.inl ⟨rfl, by simp, _, rfl⟩) (by rfl) (hb hby d10_31) (by decide) (by decide) ?_
          rw [e0]
          refine ⟨?_, N0, rfl⟩
          first | (simp [own_reach, *]; done) | (simp only [own_reach]; simp_all)
        · -- pc 18: not p0 = (2 : Int32)
          refine Runs.by (fun _ hr => XS.icmpNo X0.here hx rfl (hb hby d10_18) rfl (feq hc18).1 hr) ?_
          show Runs p e below _ (s₁.setTop (mkF m 21 #[.val (.int p0), .val (.int p1)] []))
          refine Runs.by (fun _ hr => XS.iloadN X0.here hx rfl (hb hby d10_21) rfl  hr) ?_
          show Runs p e below _ (s₁.setTop (mkF m 22 #[.val (.int p0), .val (.int p1)] [(.int p0)]))
          refine Runs.by (fun _ hr => XS.iconst X0.here hx rfl (hb hby d10_22) hr) ?_
          show Runs p e below _ (s₁.setTop (mkF m 23 #[.val (.int p0), .val (.int p1)] [(.int (3 : Int32)), (.int p0)]))
          by_cases hc23 : p0 = (3 : Int32)
          · -- pc 23: p0 = (3 : Int32)
            refine Runs.by (fun _ hr => XS.icmpNo X0.here hx rfl (hb hby d10_23) rfl (teq hc23).2 hr) ?_
            show Runs p e below _ (s₁.setTop (mkF m 26 #[.val (.int p0), .val (.int p1)] []))
            refine Runs.by (fun _ hr => XS.iconst X0.here hx rfl (hb hby d10_26) hr) ?_
            show Runs p e below _ (s₁.setTop (mkF m 27 #[.val (.int p0), .val (.int p1)] [(.int (1 : Int32))]))
            refine Runs.by (fun _ hr => XS.goto X0.here hx rfl (pc0 := 27) (pc' := 31) rfl (hb hby d10_27) (by decide) (by decide) hr) ?_
            show Runs p e below _ (s₁.setTop (mkF m 31 #[.val (.int p0), .val (.int p1)] [(.int (1 : Int32))]))
            refine Runs.ret X0 hx hrt hlk (Or.inl ⟨rfl, by simp, _, rfl⟩) (by rfl) (hb hby d10_31) (by decide) (by decide) ?_
            rw [e0]
            refine ⟨?_, N0, rfl⟩
            first | (simp [own_reach, *]; done) | (simp only [own_reach]; simp_all)
          · -- pc 23: not p0 = (3 : Int32)
            refine Runs.by (fun _ hr => XS.icmpYes X0.here hx rfl (pc0 := 23) (pc' := 30) rfl (hb hby d10_23) rfl (feq hc23).2 (by decide) (by decide) hr) ?_
            show Runs p e below _ (s₁.setTop (mkF m 30 #[.val (.int p0), .val (.int p1)] []))
            refine Runs.by (fun _ hr => XS.iconst X0.here hx rfl (hb hby d10_30) hr) ?_
            show Runs p e below _ (s₁.setTop (mkF m 31 #[.val (.int p0), .val (.int p1)] [(.int (0 : Int32))]))
            refine Runs.ret X0 hx hrt hlk (Or.inl ⟨rfl, by simp, _, rfl⟩) (by rfl) (hb hby d10_31) (by decide) (by decide) ?_
            rw [e0]
            refine ⟨?_, N0, rfl⟩
            first | (simp [own_reach, *]; done) | (simp only [own_reach]; simp_all)
    · -- pc 8: not p1 = (0 : Int32)
      refine Runs.by (fun _ hr => XS.ifYes X0.here hx rfl (pc0 := 8) (pc' := 32) rfl (hb hby d10_8) rfl ((if0 _ _).trans (feq hc8).2) (by decide) (by decide) hr) ?_
      show Runs p e below _ (s₁.setTop (mkF m 32 #[.val (.int p0), .val (.int p1)] []))
      refine Runs.by (fun _ hr => XS.iloadN X0.here hx rfl (hb hby d10_32) rfl  hr) ?_
      show Runs p e below _ (s₁.setTop (mkF m 33 #[.val (.int p0), .val (.int p1)] [(.int p1)]))
      refine Runs.by (fun _ hr => XS.iconst X0.here hx rfl (hb hby d10_33) hr) ?_
      show Runs p e below _ (s₁.setTop (mkF m 34 #[.val (.int p0), .val (.int p1)] [(.int (1 : Int32)), (.int p1)]))
      by_cases hc34 : p1 = (1 : Int32)
      · -- pc 34: p1 = (1 : Int32)
        refine Runs.by (fun _ hr => XS.icmpNo X0.here hx rfl (hb hby d10_34) rfl (teq hc34).2 hr) ?_
        show Runs p e below _ (s₁.setTop (mkF m 37 #[.val (.int p0), .val (.int p1)] []))
        refine Runs.by (fun _ hr => XS.iloadN X0.here hx rfl (hb hby d10_37) rfl  hr) ?_
        show Runs p e below _ (s₁.setTop (mkF m 38 #[.val (.int p0), .val (.int p1)] [(.int p0)]))
        refine Runs.by (fun _ hr => XS.iconst X0.here hx rfl (hb hby d10_38) hr) ?_
        show Runs p e below _ (s₁.setTop (mkF m 39 #[.val (.int p0), .val (.int p1)] [(.int (2 : Int32)), (.int p0)]))
        by_cases hc39 : p0 = (2 : Int32)
        · -- pc 39: p0 = (2 : Int32)
          refine Runs.by (fun _ hr => XS.icmpNo X0.here hx rfl (hb hby d10_39) rfl (teq hc39).2 hr) ?_
          show Runs p e below _ (s₁.setTop (mkF m 42 #[.val (.int p0), .val (.int p1)] []))
          refine Runs.by (fun _ hr => XS.iconst X0.here hx rfl (hb hby d10_42) hr) ?_
          show Runs p e below _ (s₁.setTop (mkF m 43 #[.val (.int p0), .val (.int p1)] [(.int (1 : Int32))]))
          refine Runs.by (fun _ hr => XS.goto X0.here hx rfl (pc0 := 43) (pc' := 47) rfl (hb hby d10_43) (by decide) (by decide) hr) ?_
          show Runs p e below _ (s₁.setTop (mkF m 47 #[.val (.int p0), .val (.int p1)] [(.int (1 : Int32))]))
          refine Runs.ret X0 hx hrt hlk (Or.inl ⟨rfl, by simp, _, rfl⟩) (by rfl) (hb hby d10_47) (by decide) (by decide) ?_
          rw [e0]
          refine ⟨?_, N0, rfl⟩
          first | (simp [own_reach, *]; done) | (simp only [own_reach]; simp_all)
        · -- pc 39: not p0 = (2 : Int32)
          refine Runs.by (fun _ hr => XS.icmpYes X0.here hx rfl (pc0 := 39) (pc' := 46) rfl (hb hby d10_39) rfl (feq hc39).2 (by decide) (by decide) hr) ?_
          show Runs p e below _ (s₁.setTop (mkF m 46 #[.val (.int p0), .val (.int p1)] []))
          refine Runs.by (fun _ hr => XS.iconst X0.here hx rfl (hb hby d10_46) hr) ?_
          show Runs p e below _ (s₁.setTop (mkF m 47 #[.val (.int p0), .val (.int p1)] [(.int (0 : Int32))]))
          refine Runs.ret X0 hx hrt hlk (Or.inl ⟨rfl, by simp, _, rfl⟩) (by rfl) (hb hby d10_47) (by decide) (by decide) ?_
          rw [e0]
          refine ⟨?_, N0, rfl⟩
          first | (simp [own_reach, *]; done) | (simp only [own_reach]; simp_all)
      · -- pc 34: not p1 = (1 : Int32)
        refine Runs.by (fun _ hr => XS.icmpYes X0.here hx rfl (pc0 := 34) (pc' := 48) rfl (hb hby d10_34) rfl (feq hc34).2 (by decide) (by decide) hr) ?_
        show Runs p e below _ (s₁.setTop (mkF m 48 #[.val (.int p0), .val (.int p1)] []))
        refine Runs.by (fun _ hr => XS.iconst X0.here hx rfl (hb hby d10_48) hr) ?_
        show Runs p e below _ (s₁.setTop (mkF m 49 #[.val (.int p0), .val (.int p1)] [(.int (0 : Int32))]))
        refine Runs.ret X0 hx hrt hlk (Or.inl ⟨rfl, by simp, _, rfl⟩) (by rfl) (hb hby d10_49) (by decide) (by decide) ?_
        rw [e0]
        refine ⟨?_, N0, rfl⟩
        first | (simp [own_reach, *]; done) | (simp only [own_reach]; simp_all)
theorem own_mod5 (x : Int32) : (x &&& 2147483647) % 5 = 0 ∨ (x &&& 2147483647) % 5 = 1 ∨ (x &&& 2147483647) % 5 = 2 ∨ (x &&& 2147483647) % 5 = 3 ∨ (x &&& 2147483647) % 5 = 4 := by
  have e1 : (x &&& 2147483647).toInt = x.toInt % 2 ^ 31 := Jvm.Kit.i32_mask x 2147483647 (k := 31) (by decide) (by decide)
  generalize x &&& 2147483647 = y at *
  have e2 : (y % 5).toInt = y.toInt % 5 := by
    rw [Int32.toInt_mod]
    have : (5 : Int32).toInt = 5 := by decide
    rw [this, Int.tmod_eq_emod_of_nonneg (by omega)]
  have e3 : (y % 5).toInt = 0 ∨ (y % 5).toInt = 1 ∨ (y % 5).toInt = 2 ∨ (y % 5).toInt = 3 ∨ (y % 5).toInt = 4 := by omega
  rcases e3 with h | h | h | h | h
  · exact Or.inl (Int32.toInt_inj.mp h)
  · exact Or.inr (Or.inl (Int32.toInt_inj.mp h))
  · exact Or.inr (Or.inr (Or.inl (Int32.toInt_inj.mp h)))
  · exact Or.inr (Or.inr (Or.inr (Or.inl (Int32.toInt_inj.mp h))))
  · exact Or.inr (Or.inr (Or.inr (Or.inr (Int32.toInt_inj.mp h))))
theorem ef_0_10 (m : MethodId) (p0 : Int32) (p1 : Int32) : entryFrame m #[(.int p0), (.int p1)] maxLocals = mkF m 0 #[.val (.int p0), .val (.int p1), .unset, .unset, .unset, .unset, .unset, .unset, .unset, .unset, .unset] [] := by first | (simp [entryFrame, mkF, argsToLocals, Value.category, maxLocals]; done) | rfl
def Q_rm0 (Z : State) (p0 : Int32) (p1 : Int32)  (h0 : Heap) (n0 : Nat) (v : Option Value) (h : Heap) (L : List Loc) : Prop := v = some (.int 1) ∧ Fr n0 L
theorem pd_4 : parseMethodDescriptor "(Lcom/example/prorata/prorata/request/Form;Ljava/lang/String;Lcom/example/prorata/prorata/request/Form;)V" = some ⟨[(.object "com/example/prorata/prorata/request/Form"), (.object "java/lang/String"), (.object "com/example/prorata/prorata/request/Form")], none⟩ := by decide +kernel
theorem pd_5 : parseMethodDescriptor "(II)Z" = some ⟨[.int, .int], some .boolean⟩ := by decide +kernel
set_option maxRecDepth 65536 in
set_option maxHeartbeats 40000000 in
theorem rm0 (l : Launch) (Z : State) (a0 : Array Value) (hw : ∀ d ∈ tables_1, d.before a0 Z = true) (ws : List Jvm.Cond) (p0 : Int32) (p1 : Int32)  (h0 : Heap) (n0 : Nat) (Z0 : n0 ≤ h0.size) :
    MetFree l x (head1 (Jvm.Cond.code x code maxLocals ret :: ws) room_1) (fun a U => a = #[(.int p0), (.int p1)] ∧ Z.Warmed39 U.vm ∧ U.heap = h0) (fun _ _ _ _ _ => True) (fun _ U o U' => ∃ v L, o = .returned v ∧ Q_rm0 Z p0 p1 h0 n0 v U'.heap L ∧ FrameEnd U o U' L room_1.cells room_1.slots) := by
  refine MetFree.of_bodySF (plainFor_of_name pn_com_example_prorata_prorata_request_FormHasPinLaw) hisR ?_
  intro p e s m args below meth c s₁ Bd hml0 hP hK
  obtain ⟨rfl, hZ, hh⟩ := hP
  have hx := Bd.exec
  have hby := Bd.bytes
  have hlk := BodyLoose.notSynchronized Bd
  have hrt := Bd.returns
  have hml : c.maxLocals = 11 := hml0
  have hown : s.vm.findClass "com/example/prorata/prorata/request/FormHasPinLaw" = some m.cls := findClass_of_methodNamed Bd.named
  have hnm := (name_of_methodNamed Bd.named Bd.method).1
  have X0 : Stand p l e room_1 s m #[(.int p0), (.int p1)] below meth c s₁ [] 0 0 := Stand.of_body Bd
  have e0 : s₁.heap = h0 := by rw [← hh, Bd.state]; rfl
  have N0 := Fr.nil n0
  have K0 : Keep h0 h0 [] := Keep.refl h0 _
  show Runs p e below (QE s (Q_rm0 Z p0 p1 h0 n0) room_1.cells room_1.slots) (s₁.setTop (entryFrame m #[(.int p0), (.int p1)] maxLocals))
  rw [ef_0_10 m p0 p1]
  show Runs p e below _ (s₁.setTop (mkF m 0 #[.val (.int p0), .val (.int p1), .unset, .unset, .unset, .unset, .unset, .unset, .unset, .unset, .unset] []))
  obtain ⟨T1, h1, X1, e1, E1, A1, D1, -, st1⟩ := newO X0 hx hZ hown (hw _ (List.mem_of_getElem? (i := 0) rfl)) (hw _ (List.mem_of_getElem? (i := 1) rfl)) (hw _ (List.mem_of_getElem? (i := 2) rfl)) e0 (g := (mkF m 0 #[.val (.int p0), .val (.int p1), .unset, .unset, .unset, .unset, .unset, .unset, .unset, .unset, .unset] [])) rfl (hb hby at_0) (by decide) (by decide)
  obtain ⟨b1, gz1⟩ : ∃ z, z = h0.size := ⟨_, rfl⟩
  rw [← gz1] at A1 D1 st1
  have g_b1 : n0 ≤ b1 := Nat.le_trans (Nat.le_trans Z0 K0.1) (Nat.le_of_eq gz1.symm)
  have sz_b1 : h0.size ≤ b1 := Nat.le_trans K0.1 (Nat.le_of_eq gz1.symm)
  have K2 : Keep h0 h1 [] := K0.ext E1
  have F_fields_b1 : Fld Z h1 b1 "com/example/prorata/prorata/request/Form" "fields" "Ljava/util/Map;" .null := D1 (Or.inr (hw _ (List.mem_of_getElem? (i := 29) rfl))) (ty := (.object "java/util/Map")) (by decide)
  have F_base_b1 : Fld Z h1 b1 "com/example/prorata/prorata/request/Form" "base" "Lcom/example/prorata/prorata/request/Form;" .null := D1 (Or.inr (hw _ (List.mem_of_getElem? (i := 31) rfl))) (ty := (.object "com/example/prorata/prorata/request/Form")) (by decide)
  refine Runs.by st1 ?_
  show Runs p e below _ (T1.setTop (mkF m 3 #[.val (.int p0), .val (.int p1), .unset, .unset, .unset, .unset, .unset, .unset, .unset, .unset, .unset] [(.ref b1)]))
  refine Runs.by (fun _ hr => XS.dup X1.here hx rfl (hb hby at_3) rfl rfl hr) ?_
  show Runs p e below _ (T1.setTop (mkF m 4 #[.val (.int p0), .val (.int p1), .unset, .unset, .unset, .unset, .unset, .unset, .unset, .unset, .unset] [(.ref b1), (.ref b1)]))
  obtain ⟨_, _, ⟨T3, L3, k3, n3⟩, -, X3, ⟨Lc3, hQ3, l3, y3, z3⟩, st3⟩ := X1.specialBack hx (y := (⟨"com/example/prorata/prorata/request/Form", "<init>", "()V"⟩ : MethodName)) rfl hown (mvT hZ (hw _ (List.mem_of_getElem? (i := 3) rfl))) (mvT hZ (hw _ (List.mem_of_getElem? (i := 4) rfl))) (mvT hZ (hw _ (List.mem_of_getElem? (i := 5) rfl))) (by decide) (backOf (W := 1) (rm1 l Z a0 hw [] b1  h1 n0 (Nat.le_trans Z0 K2.1) A1 F_fields_b1 F_base_b1 g_b1) hZ (hw _ (List.mem_of_getElem? (i := 5) rfl)) (hw _ (List.mem_of_getElem? (i := 2) rfl)) (by decide) (by decide)) (g := (mkF m 4 #[.val (.int p0), .val (.int p1), .unset, .unset, .unset, .unset, .unset, .unset, .unset, .unset, .unset] [(.ref b1), (.ref b1)])) rfl (by rw [hml]; rfl) (Steps.refl _) (a := b1) (argsL := []) (rest := [(.ref b1)]) (lenOf pd_0 rfl) rfl (by show 2 * 0 + _ ≤ _; exact Nat.le_of_eq rfl) (hb hby at_4) (fun _ _ => ⟨rfl, e1, (by decide : 1 + 1 ≤ _), (by decide : 2 + 8 ≤ _)⟩)
  dsimp only [Pt.U, Pt.locs, Pt.cells, Pt.slots] at X3 l3 y3 z3 st3 hQ3
  subst l3 y3 z3
  obtain ⟨rfl, Nq3, Kq3, f3_0, f3_1⟩ := hQ3
  have N3 := Fr.app N0 Nq3
  have K4 : Keep h0 T3.heap [] := Keep.trans (ws := []) K2 Kq3 (allS (Or.inr sz_b1) all0)
  refine Runs.by (fun _ hr => st3.trans hr) ?_
  show Runs p e below _ (T3.setTop (mkF m 7 #[.val (.int p0), .val (.int p1), .unset, .unset, .unset, .unset, .unset, .unset, .unset, .unset, .unset] [(.ref b1)]))
  refine Runs.by (fun _ hr => XS.astoreN X3.here hx rfl (hb hby at_7) rfl rfl (l' := #[.val (.int p0), .val (.int p1), .val (.ref b1), .unset, .unset, .unset, .unset, .unset, .unset, .unset, .unset]) rfl hr) ?_
  show Runs p e below _ (T3.setTop (mkF m 8 #[.val (.int p0), .val (.int p1), .val (.ref b1), .unset, .unset, .unset, .unset, .unset, .unset, .unset, .unset] []))
  obtain ⟨T5, h5, X5, e5, E5, A5, D5, -, st5⟩ := newO X3 hx hZ hown (hw _ (List.mem_of_getElem? (i := 0) rfl)) (hw _ (List.mem_of_getElem? (i := 1) rfl)) (hw _ (List.mem_of_getElem? (i := 2) rfl)) rfl (g := (mkF m 8 #[.val (.int p0), .val (.int p1), .val (.ref b1), .unset, .unset, .unset, .unset, .unset, .unset, .unset, .unset] [])) rfl (hb hby at_8) (by decide) (by decide)
  obtain ⟨b5, gz5⟩ : ∃ z, z = T3.heap.size := ⟨_, rfl⟩
  rw [← gz5] at A5 D5 st5
  have ne_b1_b5 : b1 ≠ b5 := Nat.ne_of_lt (Nat.lt_of_lt_of_le f3_0.lt (Nat.le_of_eq gz5.symm))
  have g_b5 : n0 ≤ b5 := Nat.le_trans (Nat.le_trans Z0 K4.1) (Nat.le_of_eq gz5.symm)
  have sz_b5 : h0.size ≤ b5 := Nat.le_trans K4.1 (Nat.le_of_eq gz5.symm)
  have K6 : Keep h0 h5 [] := K4.ext E5
  have F_fields_b5 : Fld Z h5 b5 "com/example/prorata/prorata/request/Form" "fields" "Ljava/util/Map;" .null := D5 (Or.inr (hw _ (List.mem_of_getElem? (i := 29) rfl))) (ty := (.object "java/util/Map")) (by decide)
  have F_base_b5 : Fld Z h5 b5 "com/example/prorata/prorata/request/Form" "base" "Lcom/example/prorata/prorata/request/Form;" .null := D5 (Or.inr (hw _ (List.mem_of_getElem? (i := 31) rfl))) (ty := (.object "com/example/prorata/prorata/request/Form")) (by decide)
  refine Runs.by st5 ?_
  show Runs p e below _ (T5.setTop (mkF m 11 #[.val (.int p0), .val (.int p1), .val (.ref b1), .unset, .unset, .unset, .unset, .unset, .unset, .unset, .unset] [(.ref b5)]))
  refine Runs.by (fun _ hr => XS.dup X5.here hx rfl (hb hby at_11) rfl rfl hr) ?_
  show Runs p e below _ (T5.setTop (mkF m 12 #[.val (.int p0), .val (.int p1), .val (.ref b1), .unset, .unset, .unset, .unset, .unset, .unset, .unset, .unset] [(.ref b5), (.ref b5)]))
  refine Runs.by (fun _ hr => XS.aloadN X5.here hx rfl (hb hby at_12) rfl rfl hr) ?_
  show Runs p e below _ (T5.setTop (mkF m 13 #[.val (.int p0), .val (.int p1), .val (.ref b1), .unset, .unset, .unset, .unset, .unset, .unset, .unset, .unset] [(.ref b1), (.ref b5), (.ref b5)]))
  obtain ⟨_, _, ⟨T7, L7, k7, n7⟩, -, X7, ⟨Lc7, hQ7, l7, y7, z7⟩, st7⟩ := X5.specialBack hx (y := (⟨"com/example/prorata/prorata/request/Form", "<init>", "(Lcom/example/prorata/prorata/request/Form;)V"⟩ : MethodName)) rfl hown (mvT hZ (hw _ (List.mem_of_getElem? (i := 32) rfl))) (mvT hZ (hw _ (List.mem_of_getElem? (i := 7) rfl))) (mvT hZ (hw _ (List.mem_of_getElem? (i := 8) rfl))) (by decide) (backOf (W := 1) (rm2 l Z a0 hw [] b5 b1  h5 n0 (Nat.le_trans Z0 K6.1) A5 F_fields_b5 F_base_b5 g_b5) hZ (hw _ (List.mem_of_getElem? (i := 8) rfl)) (hw _ (List.mem_of_getElem? (i := 2) rfl)) (by decide) (by decide)) (g := (mkF m 13 #[.val (.int p0), .val (.int p1), .val (.ref b1), .unset, .unset, .unset, .unset, .unset, .unset, .unset, .unset] [(.ref b1), (.ref b5), (.ref b5)])) rfl (by rw [hml]; rfl) (Steps.refl _) (a := b5) (argsL := [(.ref b1)]) (rest := [(.ref b5)]) (lenOf pd_1 rfl) rfl (by show 2 * 0 + _ ≤ _; exact Nat.le_of_eq rfl) (hb hby at_13) (fun _ _ => ⟨rfl, e5, (by decide : 3 + 1 ≤ _), (by decide : 12 + 8 ≤ _)⟩)
  dsimp only [Pt.U, Pt.locs, Pt.cells, Pt.slots] at X7 l7 y7 z7 st7 hQ7
  subst l7 y7 z7
  obtain ⟨rfl, Nq7, Kq7, f7_0, f7_1⟩ := hQ7
  have N7 := Fr.app N3 Nq7
  have K8 : Keep h0 T7.heap [] := Keep.trans (ws := []) K6 Kq7 (allS (Or.inr sz_b5) all0)
  refine Runs.by (fun _ hr => st7.trans hr) ?_
  show Runs p e below _ (T7.setTop (mkF m 16 #[.val (.int p0), .val (.int p1), .val (.ref b1), .unset, .unset, .unset, .unset, .unset, .unset, .unset, .unset] [(.ref b5)]))
  refine Runs.by (fun _ hr => XS.astoreN X7.here hx rfl (hb hby at_16) rfl rfl (l' := #[.val (.int p0), .val (.int p1), .val (.ref b1), .val (.ref b5), .unset, .unset, .unset, .unset, .unset, .unset, .unset]) rfl hr) ?_
  show Runs p e below _ (T7.setTop (mkF m 17 #[.val (.int p0), .val (.int p1), .val (.ref b1), .val (.ref b5), .unset, .unset, .unset, .unset, .unset, .unset, .unset] []))
  obtain ⟨T9, h9, X9, e9, E9, A9, D9, -, st9⟩ := newO X7 hx hZ hown (hw _ (List.mem_of_getElem? (i := 0) rfl)) (hw _ (List.mem_of_getElem? (i := 1) rfl)) (hw _ (List.mem_of_getElem? (i := 2) rfl)) rfl (g := (mkF m 17 #[.val (.int p0), .val (.int p1), .val (.ref b1), .val (.ref b5), .unset, .unset, .unset, .unset, .unset, .unset, .unset] [])) rfl (hb hby at_17) (by decide) (by decide)
  obtain ⟨b9, gz9⟩ : ∃ z, z = T7.heap.size := ⟨_, rfl⟩
  rw [← gz9] at A9 D9 st9
  have ne_b1_b9 : b1 ≠ b9 := Nat.ne_of_lt (Nat.lt_of_lt_of_le ((f3_0.ext E5).keep Kq7).lt (Nat.le_of_eq gz9.symm))
  have ne_b5_b9 : b5 ≠ b9 := Nat.ne_of_lt (Nat.lt_of_lt_of_le f7_0.lt (Nat.le_of_eq gz9.symm))
  have g_b9 : n0 ≤ b9 := Nat.le_trans (Nat.le_trans Z0 K8.1) (Nat.le_of_eq gz9.symm)
  have sz_b9 : h0.size ≤ b9 := Nat.le_trans K8.1 (Nat.le_of_eq gz9.symm)
  have K10 : Keep h0 h9 [] := K8.ext E9
  have F_fields_b9 : Fld Z h9 b9 "com/example/prorata/prorata/request/Form" "fields" "Ljava/util/Map;" .null := D9 (Or.inr (hw _ (List.mem_of_getElem? (i := 29) rfl))) (ty := (.object "java/util/Map")) (by decide)
  have F_base_b9 : Fld Z h9 b9 "com/example/prorata/prorata/request/Form" "base" "Lcom/example/prorata/prorata/request/Form;" .null := D9 (Or.inr (hw _ (List.mem_of_getElem? (i := 31) rfl))) (ty := (.object "com/example/prorata/prorata/request/Form")) (by decide)
  refine Runs.by st9 ?_
  show Runs p e below _ (T9.setTop (mkF m 20 #[.val (.int p0), .val (.int p1), .val (.ref b1), .val (.ref b5), .unset, .unset, .unset, .unset, .unset, .unset, .unset] [(.ref b9)]))
  refine Runs.by (fun _ hr => XS.dup X9.here hx rfl (hb hby at_20) rfl rfl hr) ?_
  show Runs p e below _ (T9.setTop (mkF m 21 #[.val (.int p0), .val (.int p1), .val (.ref b1), .val (.ref b5), .unset, .unset, .unset, .unset, .unset, .unset, .unset] [(.ref b9), (.ref b9)]))
  refine Runs.by (fun _ hr => XS.aloadN X9.here hx rfl (hb hby at_21) rfl rfl hr) ?_
  show Runs p e below _ (T9.setTop (mkF m 22 #[.val (.int p0), .val (.int p1), .val (.ref b1), .val (.ref b5), .unset, .unset, .unset, .unset, .unset, .unset, .unset] [(.ref b5), (.ref b9), (.ref b9)]))
  obtain ⟨_, _, ⟨T11, L11, k11, n11⟩, -, X11, ⟨Lc11, hQ11, l11, y11, z11⟩, st11⟩ := X9.specialBack hx (y := (⟨"com/example/prorata/prorata/request/Form", "<init>", "(Lcom/example/prorata/prorata/request/Form;)V"⟩ : MethodName)) rfl hown (mvT hZ (hw _ (List.mem_of_getElem? (i := 32) rfl))) (mvT hZ (hw _ (List.mem_of_getElem? (i := 7) rfl))) (mvT hZ (hw _ (List.mem_of_getElem? (i := 8) rfl))) (by decide) (backOf (W := 1) (rm2 l Z a0 hw [] b9 b5  h9 n0 (Nat.le_trans Z0 K10.1) A9 F_fields_b9 F_base_b9 g_b9) hZ (hw _ (List.mem_of_getElem? (i := 8) rfl)) (hw _ (List.mem_of_getElem? (i := 2) rfl)) (by decide) (by decide)) (g := (mkF m 22 #[.val (.int p0), .val (.int p1), .val (.ref b1), .val (.ref b5), .unset, .unset, .unset, .unset, .unset, .unset, .unset] [(.ref b5), (.ref b9), (.ref b9)])) rfl (by rw [hml]; rfl) (Steps.refl _) (a := b9) (argsL := [(.ref b5)]) (rest := [(.ref b9)]) (lenOf pd_1 rfl) rfl (by show 2 * 0 + _ ≤ _; exact Nat.le_of_eq rfl) (hb hby at_22) (fun _ _ => ⟨rfl, e9, (by decide : 5 + 1 ≤ _), (by decide : 22 + 8 ≤ _)⟩)
  dsimp only [Pt.U, Pt.locs, Pt.cells, Pt.slots] at X11 l11 y11 z11 st11 hQ11
  subst l11 y11 z11
  obtain ⟨rfl, Nq11, Kq11, f11_0, f11_1⟩ := hQ11
  have N11 := Fr.app N7 Nq11
  have K12 : Keep h0 T11.heap [] := Keep.trans (ws := []) K10 Kq11 (allS (Or.inr sz_b9) all0)
  refine Runs.by (fun _ hr => st11.trans hr) ?_
  show Runs p e below _ (T11.setTop (mkF m 25 #[.val (.int p0), .val (.int p1), .val (.ref b1), .val (.ref b5), .unset, .unset, .unset, .unset, .unset, .unset, .unset] [(.ref b9)]))
  refine Runs.by (fun _ hr => XS.astore X11.here hx rfl (hb hby at_25) rfl rfl (l' := #[.val (.int p0), .val (.int p1), .val (.ref b1), .val (.ref b5), .val (.ref b9), .unset, .unset, .unset, .unset, .unset, .unset]) rfl hr) ?_
  show Runs p e below _ (T11.setTop (mkF m 27 #[.val (.int p0), .val (.int p1), .val (.ref b1), .val (.ref b5), .val (.ref b9), .unset, .unset, .unset, .unset, .unset, .unset] []))
  obtain ⟨T13, h13, X13, e13, E13, A13, D13, -, st13⟩ := newO X11 hx hZ hown (hw _ (List.mem_of_getElem? (i := 0) rfl)) (hw _ (List.mem_of_getElem? (i := 1) rfl)) (hw _ (List.mem_of_getElem? (i := 2) rfl)) rfl (g := (mkF m 27 #[.val (.int p0), .val (.int p1), .val (.ref b1), .val (.ref b5), .val (.ref b9), .unset, .unset, .unset, .unset, .unset, .unset] [])) rfl (hb hby at_27) (by decide) (by decide)
  obtain ⟨b13, gz13⟩ : ∃ z, z = T11.heap.size := ⟨_, rfl⟩
  rw [← gz13] at A13 D13 st13
  have ne_b1_b13 : b1 ≠ b13 := Nat.ne_of_lt (Nat.lt_of_lt_of_le ((((f3_0.ext E5).keep Kq7).ext E9).keep Kq11).lt (Nat.le_of_eq gz13.symm))
  have ne_b5_b13 : b5 ≠ b13 := Nat.ne_of_lt (Nat.lt_of_lt_of_le ((f7_0.ext E9).keep Kq11).lt (Nat.le_of_eq gz13.symm))
  have ne_b9_b13 : b9 ≠ b13 := Nat.ne_of_lt (Nat.lt_of_lt_of_le f11_0.lt (Nat.le_of_eq gz13.symm))
  have g_b13 : n0 ≤ b13 := Nat.le_trans (Nat.le_trans Z0 K12.1) (Nat.le_of_eq gz13.symm)
  have sz_b13 : h0.size ≤ b13 := Nat.le_trans K12.1 (Nat.le_of_eq gz13.symm)
  have K14 : Keep h0 h13 [] := K12.ext E13
  have F_fields_b13 : Fld Z h13 b13 "com/example/prorata/prorata/request/Form" "fields" "Ljava/util/Map;" .null := D13 (Or.inr (hw _ (List.mem_of_getElem? (i := 29) rfl))) (ty := (.object "java/util/Map")) (by decide)
  have F_base_b13 : Fld Z h13 b13 "com/example/prorata/prorata/request/Form" "base" "Lcom/example/prorata/prorata/request/Form;" .null := D13 (Or.inr (hw _ (List.mem_of_getElem? (i := 31) rfl))) (ty := (.object "com/example/prorata/prorata/request/Form")) (by decide)
  refine Runs.by st13 ?_
  show Runs p e below _ (T13.setTop (mkF m 30 #[.val (.int p0), .val (.int p1), .val (.ref b1), .val (.ref b5), .val (.ref b9), .unset, .unset, .unset, .unset, .unset, .unset] [(.ref b13)]))
  refine Runs.by (fun _ hr => XS.dup X13.here hx rfl (hb hby at_30) rfl rfl hr) ?_
  show Runs p e below _ (T13.setTop (mkF m 31 #[.val (.int p0), .val (.int p1), .val (.ref b1), .val (.ref b5), .val (.ref b9), .unset, .unset, .unset, .unset, .unset, .unset] [(.ref b13), (.ref b13)]))
  refine Runs.by (fun _ hr => XS.aloadN X13.here hx rfl (hb hby at_31) rfl rfl hr) ?_
  show Runs p e below _ (T13.setTop (mkF m 32 #[.val (.int p0), .val (.int p1), .val (.ref b1), .val (.ref b5), .val (.ref b9), .unset, .unset, .unset, .unset, .unset, .unset] [(.ref b1), (.ref b13), (.ref b13)]))
  obtain ⟨_, _, ⟨T15, L15, k15, n15⟩, -, X15, ⟨Lc15, hQ15, l15, y15, z15⟩, st15⟩ := X13.specialBack hx (y := (⟨"com/example/prorata/prorata/request/Form", "<init>", "(Lcom/example/prorata/prorata/request/Form;)V"⟩ : MethodName)) rfl hown (mvT hZ (hw _ (List.mem_of_getElem? (i := 32) rfl))) (mvT hZ (hw _ (List.mem_of_getElem? (i := 7) rfl))) (mvT hZ (hw _ (List.mem_of_getElem? (i := 8) rfl))) (by decide) (backOf (W := 1) (rm2 l Z a0 hw [] b13 b1  h13 n0 (Nat.le_trans Z0 K14.1) A13 F_fields_b13 F_base_b13 g_b13) hZ (hw _ (List.mem_of_getElem? (i := 8) rfl)) (hw _ (List.mem_of_getElem? (i := 2) rfl)) (by decide) (by decide)) (g := (mkF m 32 #[.val (.int p0), .val (.int p1), .val (.ref b1), .val (.ref b5), .val (.ref b9), .unset, .unset, .unset, .unset, .unset, .unset] [(.ref b1), (.ref b13), (.ref b13)])) rfl (by rw [hml]; rfl) (Steps.refl _) (a := b13) (argsL := [(.ref b1)]) (rest := [(.ref b13)]) (lenOf pd_1 rfl) rfl (by show 2 * 0 + _ ≤ _; exact Nat.le_of_eq rfl) (hb hby at_32) (fun _ _ => ⟨rfl, e13, (by decide : 7 + 1 ≤ _), (by decide : 32 + 8 ≤ _)⟩)
  dsimp only [Pt.U, Pt.locs, Pt.cells, Pt.slots] at X15 l15 y15 z15 st15 hQ15
  subst l15 y15 z15
  obtain ⟨rfl, Nq15, Kq15, f15_0, f15_1⟩ := hQ15
  have N15 := Fr.app N11 Nq15
  have K16 : Keep h0 T15.heap [] := Keep.trans (ws := []) K14 Kq15 (allS (Or.inr sz_b13) all0)
  refine Runs.by (fun _ hr => st15.trans hr) ?_
  show Runs p e below _ (T15.setTop (mkF m 35 #[.val (.int p0), .val (.int p1), .val (.ref b1), .val (.ref b5), .val (.ref b9), .unset, .unset, .unset, .unset, .unset, .unset] [(.ref b13)]))
  refine Runs.by (fun _ hr => XS.astore X15.here hx rfl (hb hby at_35) rfl rfl (l' := #[.val (.int p0), .val (.int p1), .val (.ref b1), .val (.ref b5), .val (.ref b9), .val (.ref b13), .unset, .unset, .unset, .unset, .unset]) rfl hr) ?_
  show Runs p e below _ (T15.setTop (mkF m 37 #[.val (.int p0), .val (.int p1), .val (.ref b1), .val (.ref b5), .val (.ref b9), .val (.ref b13), .unset, .unset, .unset, .unset, .unset] []))
  obtain ⟨T17, h17, X17, e17, E17, A17, D17, -, st17⟩ := newO X15 hx hZ hown (hw _ (List.mem_of_getElem? (i := 0) rfl)) (hw _ (List.mem_of_getElem? (i := 1) rfl)) (hw _ (List.mem_of_getElem? (i := 2) rfl)) rfl (g := (mkF m 37 #[.val (.int p0), .val (.int p1), .val (.ref b1), .val (.ref b5), .val (.ref b9), .val (.ref b13), .unset, .unset, .unset, .unset, .unset] [])) rfl (hb hby at_37) (by decide) (by decide)
  obtain ⟨b17, gz17⟩ : ∃ z, z = T15.heap.size := ⟨_, rfl⟩
  rw [← gz17] at A17 D17 st17
  have ne_b1_b17 : b1 ≠ b17 := Nat.ne_of_lt (Nat.lt_of_lt_of_le ((((((f3_0.ext E5).keep Kq7).ext E9).keep Kq11).ext E13).keep Kq15).lt (Nat.le_of_eq gz17.symm))
  have ne_b5_b17 : b5 ≠ b17 := Nat.ne_of_lt (Nat.lt_of_lt_of_le ((((f7_0.ext E9).keep Kq11).ext E13).keep Kq15).lt (Nat.le_of_eq gz17.symm))
  have ne_b9_b17 : b9 ≠ b17 := Nat.ne_of_lt (Nat.lt_of_lt_of_le ((f11_0.ext E13).keep Kq15).lt (Nat.le_of_eq gz17.symm))
  have ne_b13_b17 : b13 ≠ b17 := Nat.ne_of_lt (Nat.lt_of_lt_of_le f15_0.lt (Nat.le_of_eq gz17.symm))
  have g_b17 : n0 ≤ b17 := Nat.le_trans (Nat.le_trans Z0 K16.1) (Nat.le_of_eq gz17.symm)
  have sz_b17 : h0.size ≤ b17 := Nat.le_trans K16.1 (Nat.le_of_eq gz17.symm)
  have K18 : Keep h0 h17 [] := K16.ext E17
  have F_fields_b17 : Fld Z h17 b17 "com/example/prorata/prorata/request/Form" "fields" "Ljava/util/Map;" .null := D17 (Or.inr (hw _ (List.mem_of_getElem? (i := 29) rfl))) (ty := (.object "java/util/Map")) (by decide)
  have F_base_b17 : Fld Z h17 b17 "com/example/prorata/prorata/request/Form" "base" "Lcom/example/prorata/prorata/request/Form;" .null := D17 (Or.inr (hw _ (List.mem_of_getElem? (i := 31) rfl))) (ty := (.object "com/example/prorata/prorata/request/Form")) (by decide)
  refine Runs.by st17 ?_
  show Runs p e below _ (T17.setTop (mkF m 40 #[.val (.int p0), .val (.int p1), .val (.ref b1), .val (.ref b5), .val (.ref b9), .val (.ref b13), .unset, .unset, .unset, .unset, .unset] [(.ref b17)]))
  refine Runs.by (fun _ hr => XS.dup X17.here hx rfl (hb hby at_40) rfl rfl hr) ?_
  show Runs p e below _ (T17.setTop (mkF m 41 #[.val (.int p0), .val (.int p1), .val (.ref b1), .val (.ref b5), .val (.ref b9), .val (.ref b13), .unset, .unset, .unset, .unset, .unset] [(.ref b17), (.ref b17)]))
  obtain ⟨_, _, ⟨T19, L19, k19, n19⟩, -, X19, ⟨Lc19, hQ19, l19, y19, z19⟩, st19⟩ := X17.specialBack hx (y := (⟨"com/example/prorata/prorata/request/Form", "<init>", "()V"⟩ : MethodName)) rfl hown (mvT hZ (hw _ (List.mem_of_getElem? (i := 3) rfl))) (mvT hZ (hw _ (List.mem_of_getElem? (i := 4) rfl))) (mvT hZ (hw _ (List.mem_of_getElem? (i := 5) rfl))) (by decide) (backOf (W := 1) (rm1 l Z a0 hw [] b17  h17 n0 (Nat.le_trans Z0 K18.1) A17 F_fields_b17 F_base_b17 g_b17) hZ (hw _ (List.mem_of_getElem? (i := 5) rfl)) (hw _ (List.mem_of_getElem? (i := 2) rfl)) (by decide) (by decide)) (g := (mkF m 41 #[.val (.int p0), .val (.int p1), .val (.ref b1), .val (.ref b5), .val (.ref b9), .val (.ref b13), .unset, .unset, .unset, .unset, .unset] [(.ref b17), (.ref b17)])) rfl (by rw [hml]; rfl) (Steps.refl _) (a := b17) (argsL := []) (rest := [(.ref b17)]) (lenOf pd_0 rfl) rfl (by show 2 * 0 + _ ≤ _; exact Nat.le_of_eq rfl) (hb hby at_41) (fun _ _ => ⟨rfl, e17, (by decide : 9 + 1 ≤ _), (by decide : 42 + 8 ≤ _)⟩)
  dsimp only [Pt.U, Pt.locs, Pt.cells, Pt.slots] at X19 l19 y19 z19 st19 hQ19
  subst l19 y19 z19
  obtain ⟨rfl, Nq19, Kq19, f19_0, f19_1⟩ := hQ19
  have N19 := Fr.app N15 Nq19
  have K20 : Keep h0 T19.heap [] := Keep.trans (ws := []) K18 Kq19 (allS (Or.inr sz_b17) all0)
  refine Runs.by (fun _ hr => st19.trans hr) ?_
  show Runs p e below _ (T19.setTop (mkF m 44 #[.val (.int p0), .val (.int p1), .val (.ref b1), .val (.ref b5), .val (.ref b9), .val (.ref b13), .unset, .unset, .unset, .unset, .unset] [(.ref b17)]))
  refine Runs.by (fun _ hr => XS.astore X19.here hx rfl (hb hby at_44) rfl rfl (l' := #[.val (.int p0), .val (.int p1), .val (.ref b1), .val (.ref b5), .val (.ref b9), .val (.ref b13), .val (.ref b17), .unset, .unset, .unset, .unset]) rfl hr) ?_
  show Runs p e below _ (T19.setTop (mkF m 46 #[.val (.int p0), .val (.int p1), .val (.ref b1), .val (.ref b5), .val (.ref b9), .val (.ref b13), .val (.ref b17), .unset, .unset, .unset, .unset] []))
  refine Runs.by (fun _ hr => XS.iconst X19.here hx rfl (hb hby at_46) hr) ?_
  show Runs p e below _ (T19.setTop (mkF m 47 #[.val (.int p0), .val (.int p1), .val (.ref b1), .val (.ref b5), .val (.ref b9), .val (.ref b13), .val (.ref b17), .unset, .unset, .unset, .unset] [(.int (5 : Int32))]))
  obtain ⟨T21, h21, k21, X21, e21, E21, A21, O21, st21⟩ := newR X19 hx hZ hown (hw _ (List.mem_of_getElem? (i := 0) rfl)) (hw _ (List.mem_of_getElem? (i := 33) rfl)) rfl (g := (mkF m 47 #[.val (.int p0), .val (.int p1), .val (.ref b1), .val (.ref b5), .val (.ref b9), .val (.ref b13), .val (.ref b17), .unset, .unset, .unset, .unset] [(.int (5 : Int32))])) rfl (hb hby at_47) rfl (by decide) (cap := 5) (by decide) (by decide) (by decide) (by decide)
  obtain ⟨b21, gz21⟩ : ∃ z, z = T19.heap.size := ⟨_, rfl⟩
  rw [← gz21] at A21 st21
  have ne_b1_b21 : b1 ≠ b21 := Nat.ne_of_lt (Nat.lt_of_lt_of_le ((((((((f3_0.ext E5).keep Kq7).ext E9).keep Kq11).ext E13).keep Kq15).ext E17).keep Kq19).lt (Nat.le_of_eq gz21.symm))
  have ne_b5_b21 : b5 ≠ b21 := Nat.ne_of_lt (Nat.lt_of_lt_of_le ((((((f7_0.ext E9).keep Kq11).ext E13).keep Kq15).ext E17).keep Kq19).lt (Nat.le_of_eq gz21.symm))
  have ne_b9_b21 : b9 ≠ b21 := Nat.ne_of_lt (Nat.lt_of_lt_of_le ((((f11_0.ext E13).keep Kq15).ext E17).keep Kq19).lt (Nat.le_of_eq gz21.symm))
  have ne_b13_b21 : b13 ≠ b21 := Nat.ne_of_lt (Nat.lt_of_lt_of_le ((f15_0.ext E17).keep Kq19).lt (Nat.le_of_eq gz21.symm))
  have ne_b17_b21 : b17 ≠ b21 := Nat.ne_of_lt (Nat.lt_of_lt_of_le f19_0.lt (Nat.le_of_eq gz21.symm))
  have g_b21 : n0 ≤ b21 := Nat.le_trans (Nat.le_trans Z0 K20.1) (Nat.le_of_eq gz21.symm)
  have sz_b21 : h0.size ≤ b21 := Nat.le_trans K20.1 (Nat.le_of_eq gz21.symm)
  have K22 : Keep h0 h21 [] := K20.ext E21
  have V21 : Arv Z h21 b21 k21 (.object "com/example/prorata/prorata/request/Form") (5 : Int32) [.null, .null, .null, .null, .null] .null := (Arv.new A21 (by decide)).pad (pad_rep [] .null 5)
  refine Runs.by st21 ?_
  show Runs p e below _ (T21.setTop (mkF m 50 #[.val (.int p0), .val (.int p1), .val (.ref b1), .val (.ref b5), .val (.ref b9), .val (.ref b13), .val (.ref b17), .unset, .unset, .unset, .unset] [(.ref b21)]))
  refine Runs.by (fun _ hr => XS.dup X21.here hx rfl (hb hby at_50) rfl rfl hr) ?_
  show Runs p e below _ (T21.setTop (mkF m 51 #[.val (.int p0), .val (.int p1), .val (.ref b1), .val (.ref b5), .val (.ref b9), .val (.ref b13), .val (.ref b17), .unset, .unset, .unset, .unset] [(.ref b21), (.ref b21)]))
  refine Runs.by (fun _ hr => XS.iconst X21.here hx rfl (hb hby at_51) hr) ?_
  show Runs p e below _ (T21.setTop (mkF m 52 #[.val (.int p0), .val (.int p1), .val (.ref b1), .val (.ref b5), .val (.ref b9), .val (.ref b13), .val (.ref b17), .unset, .unset, .unset, .unset] [(.int (0 : Int32)), (.ref b21), (.ref b21)]))
  refine Runs.by (fun _ hr => XS.aloadN X21.here hx rfl (hb hby at_52) rfl rfl hr) ?_
  show Runs p e below _ (T21.setTop (mkF m 53 #[.val (.int p0), .val (.int p1), .val (.ref b1), .val (.ref b5), .val (.ref b9), .val (.ref b13), .val (.ref b17), .unset, .unset, .unset, .unset] [(.ref b1), (.int (0 : Int32)), (.ref b21), (.ref b21)]))
  obtain ⟨cl23, Ar23, q23, S23, N23', H23, G23⟩ := id V21
  have hin23 : ¬ ((0 : Int32) < 0 ∨ cl23.slots.size ≤ ((0 : Int32)).toNatClampNeg) := inb_of S23 ⟨by decide, by decide⟩
  obtain ⟨T23, h23, X23, e23, W23, st23⟩ := stR X21 hx hZ e21 Ar23 (j := (0 : Int32)) hin23 rfl (Sto.ofV Ar23 q23 O21 (Ins.self (((((((((f3_0.ext E5).keep Kq7).ext E9).keep Kq11).ext E13).keep Kq15).ext E17).keep Kq19).ext E21))) (g := (mkF m 53 #[.val (.int p0), .val (.int p1), .val (.ref b1), .val (.ref b5), .val (.ref b9), .val (.ref b13), .val (.ref b17), .unset, .unset, .unset, .unset] [(.ref b1), (.int (0 : Int32)), (.ref b21), (.ref b21)])) rfl rfl (hb hby at_53)
  have V23 : Arv Z h23 b21 k21 (.object "com/example/prorata/prorata/request/Form") (5 : Int32) [(.ref b1), .null, .null, .null, .null] .null := Arv.set Ar23 q23 S23 N23' H23 G23 rfl W23 (0) rfl (Nat.le_of_ble_eq_true rfl)
  have K24 : Keep h0 h23 [] := K22.wr W23 (Or.inr sz_b21)
  have N23 := Fr.snoc X23 N19 g_b21
  refine Runs.by st23 ?_
  show Runs p e below _ (T23.setTop (mkF m 54 #[.val (.int p0), .val (.int p1), .val (.ref b1), .val (.ref b5), .val (.ref b9), .val (.ref b13), .val (.ref b17), .unset, .unset, .unset, .unset] [(.ref b21)]))
  refine Runs.by (fun _ hr => XS.dup X23.here hx rfl (hb hby at_54) rfl rfl hr) ?_
  show Runs p e below _ (T23.setTop (mkF m 55 #[.val (.int p0), .val (.int p1), .val (.ref b1), .val (.ref b5), .val (.ref b9), .val (.ref b13), .val (.ref b17), .unset, .unset, .unset, .unset] [(.ref b21), (.ref b21)]))
  refine Runs.by (fun _ hr => XS.iconst X23.here hx rfl (hb hby at_55) hr) ?_
  show Runs p e below _ (T23.setTop (mkF m 56 #[.val (.int p0), .val (.int p1), .val (.ref b1), .val (.ref b5), .val (.ref b9), .val (.ref b13), .val (.ref b17), .unset, .unset, .unset, .unset] [(.int (1 : Int32)), (.ref b21), (.ref b21)]))
  refine Runs.by (fun _ hr => XS.aloadN X23.here hx rfl (hb hby at_56) rfl rfl hr) ?_
  show Runs p e below _ (T23.setTop (mkF m 57 #[.val (.int p0), .val (.int p1), .val (.ref b1), .val (.ref b5), .val (.ref b9), .val (.ref b13), .val (.ref b17), .unset, .unset, .unset, .unset] [(.ref b5), (.int (1 : Int32)), (.ref b21), (.ref b21)]))
  obtain ⟨cl25, Ar25, q25, S25, N25', H25, G25⟩ := id V23
  have hin25 : ¬ ((1 : Int32) < 0 ∨ cl25.slots.size ≤ ((1 : Int32)).toNatClampNeg) := inb_of S25 ⟨by decide, by decide⟩
  obtain ⟨T25, h25, X25, e25, W25, st25⟩ := stR X23 hx hZ e23 Ar25 (j := (1 : Int32)) hin25 rfl (Sto.ofV Ar25 q25 O21 (Ins.self ((((((((f7_0.ext E9).keep Kq11).ext E13).keep Kq15).ext E17).keep Kq19).ext E21).wr W23))) (g := (mkF m 57 #[.val (.int p0), .val (.int p1), .val (.ref b1), .val (.ref b5), .val (.ref b9), .val (.ref b13), .val (.ref b17), .unset, .unset, .unset, .unset] [(.ref b5), (.int (1 : Int32)), (.ref b21), (.ref b21)])) rfl rfl (hb hby at_57)
  have V25 : Arv Z h25 b21 k21 (.object "com/example/prorata/prorata/request/Form") (5 : Int32) [(.ref b1), (.ref b5), .null, .null, .null] .null := Arv.set Ar25 q25 S25 N25' H25 G25 rfl W25 (1) rfl (Nat.le_of_ble_eq_true rfl)
  have K26 : Keep h0 h25 [] := K24.wr W25 (Or.inr sz_b21)
  have N25 := Fr.snoc X25 N23 g_b21
  refine Runs.by st25 ?_
  show Runs p e below _ (T25.setTop (mkF m 58 #[.val (.int p0), .val (.int p1), .val (.ref b1), .val (.ref b5), .val (.ref b9), .val (.ref b13), .val (.ref b17), .unset, .unset, .unset, .unset] [(.ref b21)]))
  refine Runs.by (fun _ hr => XS.dup X25.here hx rfl (hb hby at_58) rfl rfl hr) ?_
  show Runs p e below _ (T25.setTop (mkF m 59 #[.val (.int p0), .val (.int p1), .val (.ref b1), .val (.ref b5), .val (.ref b9), .val (.ref b13), .val (.ref b17), .unset, .unset, .unset, .unset] [(.ref b21), (.ref b21)]))
  refine Runs.by (fun _ hr => XS.iconst X25.here hx rfl (hb hby at_59) hr) ?_
  show Runs p e below _ (T25.setTop (mkF m 60 #[.val (.int p0), .val (.int p1), .val (.ref b1), .val (.ref b5), .val (.ref b9), .val (.ref b13), .val (.ref b17), .unset, .unset, .unset, .unset] [(.int (2 : Int32)), (.ref b21), (.ref b21)]))
  refine Runs.by (fun _ hr => XS.aload X25.here hx rfl (hb hby at_60) rfl rfl hr) ?_
  show Runs p e below _ (T25.setTop (mkF m 62 #[.val (.int p0), .val (.int p1), .val (.ref b1), .val (.ref b5), .val (.ref b9), .val (.ref b13), .val (.ref b17), .unset, .unset, .unset, .unset] [(.ref b9), (.int (2 : Int32)), (.ref b21), (.ref b21)]))
  obtain ⟨cl27, Ar27, q27, S27, N27', H27, G27⟩ := id V25
  have hin27 : ¬ ((2 : Int32) < 0 ∨ cl27.slots.size ≤ ((2 : Int32)).toNatClampNeg) := inb_of S27 ⟨by decide, by decide⟩
  obtain ⟨T27, h27, X27, e27, W27, st27⟩ := stR X25 hx hZ e25 Ar27 (j := (2 : Int32)) hin27 rfl (Sto.ofV Ar27 q27 O21 (Ins.self (((((((f11_0.ext E13).keep Kq15).ext E17).keep Kq19).ext E21).wr W23).wr W25))) (g := (mkF m 62 #[.val (.int p0), .val (.int p1), .val (.ref b1), .val (.ref b5), .val (.ref b9), .val (.ref b13), .val (.ref b17), .unset, .unset, .unset, .unset] [(.ref b9), (.int (2 : Int32)), (.ref b21), (.ref b21)])) rfl rfl (hb hby at_62)
  have V27 : Arv Z h27 b21 k21 (.object "com/example/prorata/prorata/request/Form") (5 : Int32) [(.ref b1), (.ref b5), (.ref b9), .null, .null] .null := Arv.set Ar27 q27 S27 N27' H27 G27 rfl W27 (2) rfl (Nat.le_of_ble_eq_true rfl)
  have K28 : Keep h0 h27 [] := K26.wr W27 (Or.inr sz_b21)
  have N27 := Fr.snoc X27 N25 g_b21
  refine Runs.by st27 ?_
  show Runs p e below _ (T27.setTop (mkF m 63 #[.val (.int p0), .val (.int p1), .val (.ref b1), .val (.ref b5), .val (.ref b9), .val (.ref b13), .val (.ref b17), .unset, .unset, .unset, .unset] [(.ref b21)]))
  refine Runs.by (fun _ hr => XS.dup X27.here hx rfl (hb hby at_63) rfl rfl hr) ?_
  show Runs p e below _ (T27.setTop (mkF m 64 #[.val (.int p0), .val (.int p1), .val (.ref b1), .val (.ref b5), .val (.ref b9), .val (.ref b13), .val (.ref b17), .unset, .unset, .unset, .unset] [(.ref b21), (.ref b21)]))
  refine Runs.by (fun _ hr => XS.iconst X27.here hx rfl (hb hby at_64) hr) ?_
  show Runs p e below _ (T27.setTop (mkF m 65 #[.val (.int p0), .val (.int p1), .val (.ref b1), .val (.ref b5), .val (.ref b9), .val (.ref b13), .val (.ref b17), .unset, .unset, .unset, .unset] [(.int (3 : Int32)), (.ref b21), (.ref b21)]))
  refine Runs.by (fun _ hr => XS.aload X27.here hx rfl (hb hby at_65) rfl rfl hr) ?_
  show Runs p e below _ (T27.setTop (mkF m 67 #[.val (.int p0), .val (.int p1), .val (.ref b1), .val (.ref b5), .val (.ref b9), .val (.ref b13), .val (.ref b17), .unset, .unset, .unset, .unset] [(.ref b13), (.int (3 : Int32)), (.ref b21), (.ref b21)]))
  obtain ⟨cl29, Ar29, q29, S29, N29', H29, G29⟩ := id V27
  have hin29 : ¬ ((3 : Int32) < 0 ∨ cl29.slots.size ≤ ((3 : Int32)).toNatClampNeg) := inb_of S29 ⟨by decide, by decide⟩
  obtain ⟨T29, h29, X29, e29, W29, st29⟩ := stR X27 hx hZ e27 Ar29 (j := (3 : Int32)) hin29 rfl (Sto.ofV Ar29 q29 O21 (Ins.self ((((((f15_0.ext E17).keep Kq19).ext E21).wr W23).wr W25).wr W27))) (g := (mkF m 67 #[.val (.int p0), .val (.int p1), .val (.ref b1), .val (.ref b5), .val (.ref b9), .val (.ref b13), .val (.ref b17), .unset, .unset, .unset, .unset] [(.ref b13), (.int (3 : Int32)), (.ref b21), (.ref b21)])) rfl rfl (hb hby at_67)
  have V29 : Arv Z h29 b21 k21 (.object "com/example/prorata/prorata/request/Form") (5 : Int32) [(.ref b1), (.ref b5), (.ref b9), (.ref b13), .null] .null := Arv.set Ar29 q29 S29 N29' H29 G29 rfl W29 (3) rfl (Nat.le_of_ble_eq_true rfl)
  have K30 : Keep h0 h29 [] := K28.wr W29 (Or.inr sz_b21)
  have N29 := Fr.snoc X29 N27 g_b21
  refine Runs.by st29 ?_
  show Runs p e below _ (T29.setTop (mkF m 68 #[.val (.int p0), .val (.int p1), .val (.ref b1), .val (.ref b5), .val (.ref b9), .val (.ref b13), .val (.ref b17), .unset, .unset, .unset, .unset] [(.ref b21)]))
  refine Runs.by (fun _ hr => XS.dup X29.here hx rfl (hb hby at_68) rfl rfl hr) ?_
  show Runs p e below _ (T29.setTop (mkF m 69 #[.val (.int p0), .val (.int p1), .val (.ref b1), .val (.ref b5), .val (.ref b9), .val (.ref b13), .val (.ref b17), .unset, .unset, .unset, .unset] [(.ref b21), (.ref b21)]))
  refine Runs.by (fun _ hr => XS.iconst X29.here hx rfl (hb hby at_69) hr) ?_
  show Runs p e below _ (T29.setTop (mkF m 70 #[.val (.int p0), .val (.int p1), .val (.ref b1), .val (.ref b5), .val (.ref b9), .val (.ref b13), .val (.ref b17), .unset, .unset, .unset, .unset] [(.int (4 : Int32)), (.ref b21), (.ref b21)]))
  refine Runs.by (fun _ hr => XS.aload X29.here hx rfl (hb hby at_70) rfl rfl hr) ?_
  show Runs p e below _ (T29.setTop (mkF m 72 #[.val (.int p0), .val (.int p1), .val (.ref b1), .val (.ref b5), .val (.ref b9), .val (.ref b13), .val (.ref b17), .unset, .unset, .unset, .unset] [(.ref b17), (.int (4 : Int32)), (.ref b21), (.ref b21)]))
  obtain ⟨cl31, Ar31, q31, S31, N31', H31, G31⟩ := id V29
  have hin31 : ¬ ((4 : Int32) < 0 ∨ cl31.slots.size ≤ ((4 : Int32)).toNatClampNeg) := inb_of S31 ⟨by decide, by decide⟩
  obtain ⟨T31, h31, X31, e31, W31, st31⟩ := stR X29 hx hZ e29 Ar31 (j := (4 : Int32)) hin31 rfl (Sto.ofV Ar31 q31 O21 (Ins.self (((((f19_0.ext E21).wr W23).wr W25).wr W27).wr W29))) (g := (mkF m 72 #[.val (.int p0), .val (.int p1), .val (.ref b1), .val (.ref b5), .val (.ref b9), .val (.ref b13), .val (.ref b17), .unset, .unset, .unset, .unset] [(.ref b17), (.int (4 : Int32)), (.ref b21), (.ref b21)])) rfl rfl (hb hby at_72)
  have V31 : Arv Z h31 b21 k21 (.object "com/example/prorata/prorata/request/Form") (5 : Int32) [(.ref b1), (.ref b5), (.ref b9), (.ref b13), (.ref b17)] .null := Arv.set Ar31 q31 S31 N31' H31 G31 rfl W31 (4) rfl (Nat.le_of_ble_eq_true rfl)
  have K32 : Keep h0 h31 [] := K30.wr W31 (Or.inr sz_b21)
  have N31 := Fr.snoc X31 N29 g_b21
  refine Runs.by st31 ?_
  show Runs p e below _ (T31.setTop (mkF m 73 #[.val (.int p0), .val (.int p1), .val (.ref b1), .val (.ref b5), .val (.ref b9), .val (.ref b13), .val (.ref b17), .unset, .unset, .unset, .unset] [(.ref b21)]))
  refine Runs.by (fun _ hr => XS.astore X31.here hx rfl (hb hby at_73) rfl rfl (l' := #[.val (.int p0), .val (.int p1), .val (.ref b1), .val (.ref b5), .val (.ref b9), .val (.ref b13), .val (.ref b17), .val (.ref b21), .unset, .unset, .unset]) rfl hr) ?_
  show Runs p e below _ (T31.setTop (mkF m 75 #[.val (.int p0), .val (.int p1), .val (.ref b1), .val (.ref b5), .val (.ref b9), .val (.ref b13), .val (.ref b17), .val (.ref b21), .unset, .unset, .unset] []))
  refine Runs.by (fun _ hr => XS.iloadN X31.here hx rfl (hb hby at_75) rfl  hr) ?_
  show Runs p e below _ (T31.setTop (mkF m 76 #[.val (.int p0), .val (.int p1), .val (.ref b1), .val (.ref b5), .val (.ref b9), .val (.ref b13), .val (.ref b17), .val (.ref b21), .unset, .unset, .unset] [(.int p0)]))
  refine Runs.by (fun _ hr => X31.ldcI hx hown (mvT hZ (hw _ (List.mem_of_getElem? (i := 35) rfl))) (g := (mkF m 76 #[.val (.int p0), .val (.int p1), .val (.ref b1), .val (.ref b5), .val (.ref b9), .val (.ref b13), .val (.ref b17), .val (.ref b21), .unset, .unset, .unset] [(.int p0)])) rfl (hb hby at_76) hr) ?_
  show Runs p e below _ (T31.setTop (mkF m 78 #[.val (.int p0), .val (.int p1), .val (.ref b1), .val (.ref b5), .val (.ref b9), .val (.ref b13), .val (.ref b17), .val (.ref b21), .unset, .unset, .unset] [(.int (2147483647 : Int32)), (.int p0)]))
  refine Runs.by (fun _ hr => XS.iand X31.here hx rfl (hb hby at_78) rfl hr) ?_
  show Runs p e below _ (T31.setTop (mkF m 79 #[.val (.int p0), .val (.int p1), .val (.ref b1), .val (.ref b5), .val (.ref b9), .val (.ref b13), .val (.ref b17), .val (.ref b21), .unset, .unset, .unset] [(.int (p0 &&& (2147483647 : Int32)))]))
  refine Runs.by (fun _ hr => XS.iconst X31.here hx rfl (hb hby at_79) hr) ?_
  show Runs p e below _ (T31.setTop (mkF m 80 #[.val (.int p0), .val (.int p1), .val (.ref b1), .val (.ref b5), .val (.ref b9), .val (.ref b13), .val (.ref b17), .val (.ref b21), .unset, .unset, .unset] [(.int (5 : Int32)), (.int (p0 &&& (2147483647 : Int32)))]))
  refine Runs.by (fun _ hr => iremM X31 hx rfl (hb hby at_80) rfl (by decide) hr) ?_
  show Runs p e below _ (T31.setTop (mkF m 81 #[.val (.int p0), .val (.int p1), .val (.ref b1), .val (.ref b5), .val (.ref b9), .val (.ref b13), .val (.ref b17), .val (.ref b21), .unset, .unset, .unset] [(.int ((p0 &&& (2147483647 : Int32)) % (5 : Int32)))]))
  refine Runs.by (fun _ hr => XS.istore X31.here hx rfl (hb hby at_81) rfl (l' := #[.val (.int p0), .val (.int p1), .val (.ref b1), .val (.ref b5), .val (.ref b9), .val (.ref b13), .val (.ref b17), .val (.ref b21), .val (.int ((p0 &&& (2147483647 : Int32)) % (5 : Int32))), .unset, .unset]) rfl hr) ?_
  show Runs p e below _ (T31.setTop (mkF m 83 #[.val (.int p0), .val (.int p1), .val (.ref b1), .val (.ref b5), .val (.ref b9), .val (.ref b13), .val (.ref b17), .val (.ref b21), .val (.int ((p0 &&& (2147483647 : Int32)) % (5 : Int32))), .unset, .unset] []))
  refine Runs.by (fun _ hr => XS.iloadN X31.here hx rfl (hb hby at_83) rfl  hr) ?_
  show Runs p e below _ (T31.setTop (mkF m 84 #[.val (.int p0), .val (.int p1), .val (.ref b1), .val (.ref b5), .val (.ref b9), .val (.ref b13), .val (.ref b17), .val (.ref b21), .val (.int ((p0 &&& (2147483647 : Int32)) % (5 : Int32))), .unset, .unset] [(.int p1)]))
  refine Runs.by (fun _ hr => X31.ldcI hx hown (mvT hZ (hw _ (List.mem_of_getElem? (i := 35) rfl))) (g := (mkF m 84 #[.val (.int p0), .val (.int p1), .val (.ref b1), .val (.ref b5), .val (.ref b9), .val (.ref b13), .val (.ref b17), .val (.ref b21), .val (.int ((p0 &&& (2147483647 : Int32)) % (5 : Int32))), .unset, .unset] [(.int p1)])) rfl (hb hby at_84) hr) ?_
  show Runs p e below _ (T31.setTop (mkF m 86 #[.val (.int p0), .val (.int p1), .val (.ref b1), .val (.ref b5), .val (.ref b9), .val (.ref b13), .val (.ref b17), .val (.ref b21), .val (.int ((p0 &&& (2147483647 : Int32)) % (5 : Int32))), .unset, .unset] [(.int (2147483647 : Int32)), (.int p1)]))
  refine Runs.by (fun _ hr => XS.iand X31.here hx rfl (hb hby at_86) rfl hr) ?_
  show Runs p e below _ (T31.setTop (mkF m 87 #[.val (.int p0), .val (.int p1), .val (.ref b1), .val (.ref b5), .val (.ref b9), .val (.ref b13), .val (.ref b17), .val (.ref b21), .val (.int ((p0 &&& (2147483647 : Int32)) % (5 : Int32))), .unset, .unset] [(.int (p1 &&& (2147483647 : Int32)))]))
  refine Runs.by (fun _ hr => XS.iconst X31.here hx rfl (hb hby at_87) hr) ?_
  show Runs p e below _ (T31.setTop (mkF m 88 #[.val (.int p0), .val (.int p1), .val (.ref b1), .val (.ref b5), .val (.ref b9), .val (.ref b13), .val (.ref b17), .val (.ref b21), .val (.int ((p0 &&& (2147483647 : Int32)) % (5 : Int32))), .unset, .unset] [(.int (5 : Int32)), (.int (p1 &&& (2147483647 : Int32)))]))
  refine Runs.by (fun _ hr => iremM X31 hx rfl (hb hby at_88) rfl (by decide) hr) ?_
  show Runs p e below _ (T31.setTop (mkF m 89 #[.val (.int p0), .val (.int p1), .val (.ref b1), .val (.ref b5), .val (.ref b9), .val (.ref b13), .val (.ref b17), .val (.ref b21), .val (.int ((p0 &&& (2147483647 : Int32)) % (5 : Int32))), .unset, .unset] [(.int ((p1 &&& (2147483647 : Int32)) % (5 : Int32)))]))
  refine Runs.by (fun _ hr => XS.istore X31.here hx rfl (hb hby at_89) rfl (l' := #[.val (.int p0), .val (.int p1), .val (.ref b1), .val (.ref b5), .val (.ref b9), .val (.ref b13), .val (.ref b17), .val (.ref b21), .val (.int ((p0 &&& (2147483647 : Int32)) % (5 : Int32))), .val (.int ((p1 &&& (2147483647 : Int32)) % (5 : Int32))), .unset]) rfl hr) ?_
  have hk9 := own_mod5 p1
  generalize (p1 &&& (2147483647 : Int32)) % (5 : Int32) = kk at hk9 ⊢
  rcases hk9 with rfl | rfl | rfl | rfl | rfl
  · skip
    show Runs p e below _ (T31.setTop (mkF m 91 #[.val (.int p0), .val (.int p1), .val (.ref b1), .val (.ref b5), .val (.ref b9), .val (.ref b13), .val (.ref b17), .val (.ref b21), .val (.int ((p0 &&& (2147483647 : Int32)) % (5 : Int32))), .val (.int (0 : Int32)), .unset] []))
    obtain ⟨T33, h33, X33, e33, E33, A33, D33, -, st33⟩ := newO X31 hx hZ hown (hw _ (List.mem_of_getElem? (i := 36) rfl)) (hw _ (List.mem_of_getElem? (i := 37) rfl)) (hw _ (List.mem_of_getElem? (i := 38) rfl)) e31 (g := (mkF m 91 #[.val (.int p0), .val (.int p1), .val (.ref b1), .val (.ref b5), .val (.ref b9), .val (.ref b13), .val (.ref b17), .val (.ref b21), .val (.int ((p0 &&& (2147483647 : Int32)) % (5 : Int32))), .val (.int (0 : Int32)), .unset] [])) rfl (hb hby at_91) (by decide) (by decide)
    obtain ⟨b33, gz33⟩ : ∃ z, z = h31.size := ⟨_, rfl⟩
    rw [← gz33] at A33 D33 st33
    have ne_b1_b33 : b1 ≠ b33 := Nat.ne_of_lt (Nat.lt_of_lt_of_le ((((((((((((((f3_0.ext E5).keep Kq7).ext E9).keep Kq11).ext E13).keep Kq15).ext E17).keep Kq19).ext E21).wr W23).wr W25).wr W27).wr W29).wr W31).lt (Nat.le_of_eq gz33.symm))
    have ne_b5_b33 : b5 ≠ b33 := Nat.ne_of_lt (Nat.lt_of_lt_of_le ((((((((((((f7_0.ext E9).keep Kq11).ext E13).keep Kq15).ext E17).keep Kq19).ext E21).wr W23).wr W25).wr W27).wr W29).wr W31).lt (Nat.le_of_eq gz33.symm))
    have ne_b9_b33 : b9 ≠ b33 := Nat.ne_of_lt (Nat.lt_of_lt_of_le ((((((((((f11_0.ext E13).keep Kq15).ext E17).keep Kq19).ext E21).wr W23).wr W25).wr W27).wr W29).wr W31).lt (Nat.le_of_eq gz33.symm))
    have ne_b13_b33 : b13 ≠ b33 := Nat.ne_of_lt (Nat.lt_of_lt_of_le ((((((((f15_0.ext E17).keep Kq19).ext E21).wr W23).wr W25).wr W27).wr W29).wr W31).lt (Nat.le_of_eq gz33.symm))
    have ne_b17_b33 : b17 ≠ b33 := Nat.ne_of_lt (Nat.lt_of_lt_of_le ((((((f19_0.ext E21).wr W23).wr W25).wr W27).wr W29).wr W31).lt (Nat.le_of_eq gz33.symm))
    have ne_b21_b33 : b21 ≠ b33 := Nat.ne_of_lt (Nat.lt_of_lt_of_le V31.lt (Nat.le_of_eq gz33.symm))
    have g_b33 : n0 ≤ b33 := Nat.le_trans (Nat.le_trans Z0 K32.1) (Nat.le_of_eq gz33.symm)
    have sz_b33 : h0.size ≤ b33 := Nat.le_trans K32.1 (Nat.le_of_eq gz33.symm)
    have K34 : Keep h0 h33 [] := K32.ext E33
    have F_form_b33 : Fld Z h33 b33 "com/example/prorata/prorata/request/Form$Field" "form" "Lcom/example/prorata/prorata/request/Form;" .null := D33 (Or.inr (hw _ (List.mem_of_getElem? (i := 49) rfl))) (ty := (.object "com/example/prorata/prorata/request/Form")) (by decide)
    have F_name_b33 : Fld Z h33 b33 "com/example/prorata/prorata/request/Form$Field" "name" "Ljava/lang/String;" .null := D33 (Or.inr (hw _ (List.mem_of_getElem? (i := 51) rfl))) (ty := (.object "java/lang/String")) (by decide)
    have F_holds_b33 : Fld Z h33 b33 "com/example/prorata/prorata/request/Form$Field" "holds" "Lcom/example/prorata/prorata/request/Form;" .null := D33 (Or.inr (hw _ (List.mem_of_getElem? (i := 53) rfl))) (ty := (.object "com/example/prorata/prorata/request/Form")) (by decide)
    refine Runs.by st33 ?_
    show Runs p e below _ (T33.setTop (mkF m 94 #[.val (.int p0), .val (.int p1), .val (.ref b1), .val (.ref b5), .val (.ref b9), .val (.ref b13), .val (.ref b17), .val (.ref b21), .val (.int ((p0 &&& (2147483647 : Int32)) % (5 : Int32))), .val (.int (0 : Int32)), .unset] [(.ref b33)]))
    refine Runs.by (fun _ hr => XS.dup X33.here hx rfl (hb hby at_94) rfl rfl hr) ?_
    show Runs p e below _ (T33.setTop (mkF m 95 #[.val (.int p0), .val (.int p1), .val (.ref b1), .val (.ref b5), .val (.ref b9), .val (.ref b13), .val (.ref b17), .val (.ref b21), .val (.int ((p0 &&& (2147483647 : Int32)) % (5 : Int32))), .val (.int (0 : Int32)), .unset] [(.ref b33), (.ref b33)]))
    refine Runs.by (fun _ hr => XS.aload X33.here hx rfl (hb hby at_95) rfl rfl hr) ?_
    show Runs p e below _ (T33.setTop (mkF m 97 #[.val (.int p0), .val (.int p1), .val (.ref b1), .val (.ref b5), .val (.ref b9), .val (.ref b13), .val (.ref b17), .val (.ref b21), .val (.int ((p0 &&& (2147483647 : Int32)) % (5 : Int32))), .val (.int (0 : Int32)), .unset] [(.ref b21), (.ref b33), (.ref b33)]))
    refine Runs.by (fun _ hr => XS.iload X33.here hx rfl (hb hby at_97) rfl  hr) ?_
    show Runs p e below _ (T33.setTop (mkF m 99 #[.val (.int p0), .val (.int p1), .val (.ref b1), .val (.ref b5), .val (.ref b9), .val (.ref b13), .val (.ref b17), .val (.ref b21), .val (.int ((p0 &&& (2147483647 : Int32)) % (5 : Int32))), .val (.int (0 : Int32)), .unset] [(.int (0 : Int32)), (.ref b21), (.ref b33), (.ref b33)]))
    obtain ⟨cl35, Ar35, -, S35, N35', H35, -⟩ := id (V31.ext E33)
    have hin35 : ¬ ((0 : Int32) < 0 ∨ cl35.slots.size ≤ ((0 : Int32)).toNatClampNeg) := inb_of S35 ⟨by decide, by decide⟩
    have hat35 := H35.at hin35 (v := (.ref b1)) rfl
    refine Runs.by (fun t hr => X33.aaload hx (j := (0 : Int32)) (v := (.ref b1)) (by rw [e33]; exact Ar35.1) (State.isArrayOf_alike hZ.alike Ar35.2.1) rfl Ar35.2.2 hin35 hat35 (g := (mkF m 99 #[.val (.int p0), .val (.int p1), .val (.ref b1), .val (.ref b5), .val (.ref b9), .val (.ref b13), .val (.ref b17), .val (.ref b21), .val (.int ((p0 &&& (2147483647 : Int32)) % (5 : Int32))), .val (.int (0 : Int32)), .unset] [(.int (0 : Int32)), (.ref b21), (.ref b33), (.ref b33)])) rfl rfl (hb hby at_99) t hr) ?_
    show Runs p e below _ (T33.setTop (mkF m 100 #[.val (.int p0), .val (.int p1), .val (.ref b1), .val (.ref b5), .val (.ref b9), .val (.ref b13), .val (.ref b17), .val (.ref b21), .val (.int ((p0 &&& (2147483647 : Int32)) % (5 : Int32))), .val (.int (0 : Int32)), .unset] [(.ref b1), (.ref b33), (.ref b33)]))
    refine Runs.by (fun _ hr => XS.aconstNull X33.here hx rfl (hb hby at_100) hr) ?_
    show Runs p e below _ (T33.setTop (mkF m 101 #[.val (.int p0), .val (.int p1), .val (.ref b1), .val (.ref b5), .val (.ref b9), .val (.ref b13), .val (.ref b17), .val (.ref b21), .val (.int ((p0 &&& (2147483647 : Int32)) % (5 : Int32))), .val (.int (0 : Int32)), .unset] [.null, (.ref b1), (.ref b33), (.ref b33)]))
    refine Runs.by (fun _ hr => XS.aconstNull X33.here hx rfl (hb hby at_101) hr) ?_
    show Runs p e below _ (T33.setTop (mkF m 102 #[.val (.int p0), .val (.int p1), .val (.ref b1), .val (.ref b5), .val (.ref b9), .val (.ref b13), .val (.ref b17), .val (.ref b21), .val (.int ((p0 &&& (2147483647 : Int32)) % (5 : Int32))), .val (.int (0 : Int32)), .unset] [.null, .null, (.ref b1), (.ref b33), (.ref b33)]))
    obtain ⟨_, _, ⟨T36, L36, k36, n36⟩, -, X36, ⟨Lc36, hQ36, l36, y36, z36⟩, st36⟩ := X33.specialBack hx (y := (⟨"com/example/prorata/prorata/request/Form$Field", "<init>", "(Lcom/example/prorata/prorata/request/Form;Ljava/lang/String;Lcom/example/prorata/prorata/request/Form;)V"⟩ : MethodName)) rfl hown (mvT hZ (hw _ (List.mem_of_getElem? (i := 39) rfl))) (mvT hZ (hw _ (List.mem_of_getElem? (i := 40) rfl))) (mvT hZ (hw _ (List.mem_of_getElem? (i := 41) rfl))) (by decide) (backOf (W := 1) (rm6 l Z a0 hw [] b33 b1  h33 n0 (Nat.le_trans Z0 K34.1) A33 F_form_b33 F_name_b33 F_holds_b33 g_b33) hZ (hw _ (List.mem_of_getElem? (i := 41) rfl)) (hw _ (List.mem_of_getElem? (i := 38) rfl)) (by decide) (by decide)) (g := (mkF m 102 #[.val (.int p0), .val (.int p1), .val (.ref b1), .val (.ref b5), .val (.ref b9), .val (.ref b13), .val (.ref b17), .val (.ref b21), .val (.int ((p0 &&& (2147483647 : Int32)) % (5 : Int32))), .val (.int (0 : Int32)), .unset] [.null, .null, (.ref b1), (.ref b33), (.ref b33)])) rfl (by rw [hml]; rfl) (Steps.refl _) (a := b33) (argsL := [(.ref b1), .null, .null]) (rest := [(.ref b33)]) (lenOf pd_4 rfl) rfl (by show 2 * 0 + _ ≤ _; exact Nat.le_of_eq rfl) (hb hby at_102) (fun _ _ => ⟨rfl, e33, (by decide : 12 + 0 ≤ _), (by decide : 58 + 0 ≤ _)⟩)
    dsimp only [Pt.U, Pt.locs, Pt.cells, Pt.slots] at X36 l36 y36 z36 st36 hQ36
    subst l36 y36 z36
    obtain ⟨rfl, Nq36, Kq36, f36_0, f36_1⟩ := hQ36
    have N36 := Fr.app N31 Nq36
    have K37 : Keep h0 T36.heap [] := Keep.trans (ws := []) K34 Kq36 (allS (Or.inr sz_b33) all0)
    refine Runs.by (fun _ hr => st36.trans hr) ?_
    show Runs p e below _ (T36.setTop (mkF m 105 #[.val (.int p0), .val (.int p1), .val (.ref b1), .val (.ref b5), .val (.ref b9), .val (.ref b13), .val (.ref b17), .val (.ref b21), .val (.int ((p0 &&& (2147483647 : Int32)) % (5 : Int32))), .val (.int (0 : Int32)), .unset] [(.ref b33)]))
    refine Runs.by (fun _ hr => XS.astore X36.here hx rfl (hb hby at_105) rfl rfl (l' := #[.val (.int p0), .val (.int p1), .val (.ref b1), .val (.ref b5), .val (.ref b9), .val (.ref b13), .val (.ref b17), .val (.ref b21), .val (.int ((p0 &&& (2147483647 : Int32)) % (5 : Int32))), .val (.int (0 : Int32)), .val (.ref b33)]) rfl hr) ?_
    have hk8 := own_mod5 p0
    generalize (p0 &&& (2147483647 : Int32)) % (5 : Int32) = kk at hk8 ⊢
    rcases hk8 with rfl | rfl | rfl | rfl | rfl
    · skip
      show Runs p e below _ (T36.setTop (mkF m 107 #[.val (.int p0), .val (.int p1), .val (.ref b1), .val (.ref b5), .val (.ref b9), .val (.ref b13), .val (.ref b17), .val (.ref b21), .val (.int (0 : Int32)), .val (.int (0 : Int32)), .val (.ref b33)] []))
      refine Runs.by (fun _ hr => XS.aload X36.here hx rfl (hb hby at_107) rfl rfl hr) ?_
      show Runs p e below _ (T36.setTop (mkF m 109 #[.val (.int p0), .val (.int p1), .val (.ref b1), .val (.ref b5), .val (.ref b9), .val (.ref b13), .val (.ref b17), .val (.ref b21), .val (.int (0 : Int32)), .val (.int (0 : Int32)), .val (.ref b33)] [(.ref b21)]))
      refine Runs.by (fun _ hr => XS.iload X36.here hx rfl (hb hby at_109) rfl  hr) ?_
      show Runs p e below _ (T36.setTop (mkF m 111 #[.val (.int p0), .val (.int p1), .val (.ref b1), .val (.ref b5), .val (.ref b9), .val (.ref b13), .val (.ref b17), .val (.ref b21), .val (.int (0 : Int32)), .val (.int (0 : Int32)), .val (.ref b33)] [(.int (0 : Int32)), (.ref b21)]))
      obtain ⟨cl38, Ar38, -, S38, N38', H38, -⟩ := id ((V31.ext E33).keep Kq36 (ninS ne_b21_b33 nin0))
      have hin38 : ¬ ((0 : Int32) < 0 ∨ cl38.slots.size ≤ ((0 : Int32)).toNatClampNeg) := inb_of S38 ⟨by decide, by decide⟩
      have hat38 := H38.at hin38 (v := (.ref b1)) rfl
      refine Runs.by (fun t hr => X36.aaload hx (j := (0 : Int32)) (v := (.ref b1)) (by exact Ar38.1) (State.isArrayOf_alike hZ.alike Ar38.2.1) rfl Ar38.2.2 hin38 hat38 (g := (mkF m 111 #[.val (.int p0), .val (.int p1), .val (.ref b1), .val (.ref b5), .val (.ref b9), .val (.ref b13), .val (.ref b17), .val (.ref b21), .val (.int (0 : Int32)), .val (.int (0 : Int32)), .val (.ref b33)] [(.int (0 : Int32)), (.ref b21)])) rfl rfl (hb hby at_111) t hr) ?_
      show Runs p e below _ (T36.setTop (mkF m 112 #[.val (.int p0), .val (.int p1), .val (.ref b1), .val (.ref b5), .val (.ref b9), .val (.ref b13), .val (.ref b17), .val (.ref b21), .val (.int (0 : Int32)), .val (.int (0 : Int32)), .val (.ref b33)] [(.ref b1)]))
      refine Runs.by (fun _ hr => XS.aload X36.here hx rfl (hb hby at_112) rfl rfl hr) ?_
      show Runs p e below _ (T36.setTop (mkF m 114 #[.val (.int p0), .val (.int p1), .val (.ref b1), .val (.ref b5), .val (.ref b9), .val (.ref b13), .val (.ref b17), .val (.ref b21), .val (.int (0 : Int32)), .val (.int (0 : Int32)), .val (.ref b33)] [(.ref b33), (.ref b1)]))
      obtain ⟨cq39, kq39, q39a, q39b, q39c⟩ := isOf hZ rfl ((((((((((((((((f3_0.ext E5).keep Kq7).ext E9).keep Kq11).ext E13).keep Kq15).ext E17).keep Kq19).ext E21).wr W23).wr W25).wr W27).wr W29).wr W31).ext E33).keep Kq36)
      obtain ⟨_, _, ⟨T39, L39, k39, n39⟩, -, X39, ⟨Lc39, hQ39, l39, y39, z39⟩, st39⟩ := X36.virtualBack hx (y := (⟨"com/example/prorata/prorata/request/Form", "has", "(Lcom/example/prorata/prorata/request/Form$Field;)Z"⟩ : MethodName)) (z := (⟨"com/example/prorata/prorata/request/Form", "has", "(Lcom/example/prorata/prorata/request/Form$Field;)Z"⟩ : MethodName)) hown (mvT hZ (hw _ (List.mem_of_getElem? (i := 54) rfl))) (mvT hZ (hw _ (List.mem_of_getElem? (i := 55) rfl))) (notFace_of_selects (args := #[]) (mvT hZ (hw _ (List.mem_of_getElem? (i := 57) rfl)))) (mvT hZ (hw _ (List.mem_of_getElem? (i := 57) rfl))) (mvT hZ (hw _ (List.mem_of_getElem? (i := 56) rfl))) (by decide) (backOf (W := 0) (rm8_1 l Z a0 hw [] b1 b33 b1 T36.heap n0 (Nat.le_trans Z0 K37.1) f36_0 f36_1 ((((((((((((((((f3_0.ext E5).keep Kq7).ext E9).keep Kq11).ext E13).keep Kq15).ext E17).keep Kq19).ext E21).wr W23).wr W25).wr W27).wr W29).wr W31).ext E33).keep Kq36) ((((((((((((((((f3_1.ext E5).keep Kq7 (ninS ne_b1_b5 nin0)).ext E9).keep Kq11 (ninS ne_b1_b9 nin0)).ext E13).keep Kq15 (ninS ne_b1_b13 nin0)).ext E17).keep Kq19 (ninS ne_b1_b17 nin0)).ext E21).other W23 (Or.inl ne_b1_b21)).other W25 (Or.inl ne_b1_b21)).other W27 (Or.inl ne_b1_b21)).other W29 (Or.inl ne_b1_b21)).other W31 (Or.inl ne_b1_b21)).ext E33).keep Kq36 (ninS ne_b1_b33 nin0))) hZ (hw _ (List.mem_of_getElem? (i := 58) rfl)) (hw _ (List.mem_of_getElem? (i := 2) rfl)) (by decide) (by decide)) q39a q39c (g := (mkF m 114 #[.val (.int p0), .val (.int p1), .val (.ref b1), .val (.ref b5), .val (.ref b9), .val (.ref b13), .val (.ref b17), .val (.ref b21), .val (.int (0 : Int32)), .val (.int (0 : Int32)), .val (.ref b33)] [(.ref b33), (.ref b1)])) rfl (by rw [hml]; rfl) (Steps.refl _) (argsL := [(.ref b33)]) (rest := []) (lenOf pd_3 rfl) rfl (by show 2 * 0 + _ ≤ _; exact Nat.le_of_eq rfl) (hb hby at_114) (fun _ _ => ⟨rfl, rfl, (by decide : 12 + 0 ≤ _), (by decide : 58 + 0 ≤ _)⟩)
      dsimp only [Pt.U, Pt.locs, Pt.cells, Pt.slots] at X39 l39 y39 z39 st39 hQ39
      subst l39 y39 z39
      obtain ⟨rfl, Nq39, eq39⟩ := hQ39
      have N39 := Fr.app N36 Nq39
      refine Runs.by (fun _ hr => st39.trans hr) ?_
      rw [show own_has [b1] b1 = (1 : Int32) from by simp [own_has]]
      show Runs p e below _ (T39.setTop (mkF m 117 #[.val (.int p0), .val (.int p1), .val (.ref b1), .val (.ref b5), .val (.ref b9), .val (.ref b13), .val (.ref b17), .val (.ref b21), .val (.int (0 : Int32)), .val (.int (0 : Int32)), .val (.ref b33)] [(.int (1 : Int32))]))
      refine Runs.by (fun _ hr => XS.iload X39.here hx rfl (hb hby at_117) rfl  hr) ?_
      show Runs p e below _ (T39.setTop (mkF m 119 #[.val (.int p0), .val (.int p1), .val (.ref b1), .val (.ref b5), .val (.ref b9), .val (.ref b13), .val (.ref b17), .val (.ref b21), .val (.int (0 : Int32)), .val (.int (0 : Int32)), .val (.ref b33)] [(.int (0 : Int32)), (.int (1 : Int32))]))
      refine Runs.by (fun _ hr => XS.iload X39.here hx rfl (hb hby at_119) rfl  hr) ?_
      show Runs p e below _ (T39.setTop (mkF m 121 #[.val (.int p0), .val (.int p1), .val (.ref b1), .val (.ref b5), .val (.ref b9), .val (.ref b13), .val (.ref b17), .val (.ref b21), .val (.int (0 : Int32)), .val (.int (0 : Int32)), .val (.ref b33)] [(.int (0 : Int32)), (.int (0 : Int32)), (.int (1 : Int32))]))
      obtain ⟨_, _, ⟨T40, L40, k40, n40⟩, -, X40, ⟨Lc40, hQ40, l40, y40, z40⟩, st40⟩ := Jvm.LawKit.callS X39 hx (y := (⟨"com/example/prorata/prorata/request/FormHasPinLaw", "reaches", "(II)Z"⟩ : MethodName)) hown (mvT hZ (hw _ (List.mem_of_getElem? (i := 64) rfl))) (mvT hZ (hw _ (List.mem_of_getElem? (i := 65) rfl))) (mvT hZ (hw _ (List.mem_of_getElem? (i := 66) rfl))) (mvT hZ (hw _ (List.mem_of_getElem? (i := 67) rfl))) (by decide) (backOf (W := 1) (rm10 l Z a0 hw [] (0 : Int32) (0 : Int32)  T36.heap n0 (Nat.le_trans Z0 K37.1) ) hZ (hw _ (List.mem_of_getElem? (i := 67) rfl)) (hw _ (List.mem_of_getElem? (i := 66) rfl)) (by decide) (by decide)) (g := (mkF m 121 #[.val (.int p0), .val (.int p1), .val (.ref b1), .val (.ref b5), .val (.ref b9), .val (.ref b13), .val (.ref b17), .val (.ref b21), .val (.int (0 : Int32)), .val (.int (0 : Int32)), .val (.ref b33)] [(.int (0 : Int32)), (.int (0 : Int32)), (.int (1 : Int32))])) rfl (by rw [hml]; rfl) (argsL := [(.int (0 : Int32)), (.int (0 : Int32))]) (rest := [(.int (1 : Int32))]) (lenOf pd_5 rfl) rfl (by show 2 * 0 + _ ≤ _; exact Nat.le_of_eq rfl) (hb hby at_121) (fun _ _ => ⟨rfl, eq39, (by decide : 12 + 0 ≤ _), (by decide : 58 + 0 ≤ _)⟩)
      dsimp only [Pt.U, Pt.locs, Pt.cells, Pt.slots] at X40 l40 y40 z40 st40 hQ40
      subst l40 y40 z40
      obtain ⟨rfl, Nq40, eq40⟩ := hQ40
      have N40 := Fr.app N39 Nq40
      refine Runs.by (fun t hr => st40 t hr) ?_
      rw [show own_reach (0 : Int32) (0 : Int32) = (1 : Int32) from by decide]
      show Runs p e below _ (T40.setTop (mkF m 124 #[.val (.int p0), .val (.int p1), .val (.ref b1), .val (.ref b5), .val (.ref b9), .val (.ref b13), .val (.ref b17), .val (.ref b21), .val (.int (0 : Int32)), .val (.int (0 : Int32)), .val (.ref b33)] [(.int (1 : Int32)), (.int (1 : Int32))]))
      have hc124 : (1 : Int32) = (1 : Int32) := (by decide)
      refine Runs.by (fun _ hr => XS.icmpNo X40.here hx rfl (hb hby at_124) rfl (teq hc124).2 hr) ?_
      show Runs p e below _ (T40.setTop (mkF m 127 #[.val (.int p0), .val (.int p1), .val (.ref b1), .val (.ref b5), .val (.ref b9), .val (.ref b13), .val (.ref b17), .val (.ref b21), .val (.int (0 : Int32)), .val (.int (0 : Int32)), .val (.ref b33)] []))
      refine Runs.by (fun _ hr => XS.iconst X40.here hx rfl (hb hby at_127) hr) ?_
      show Runs p e below _ (T40.setTop (mkF m 128 #[.val (.int p0), .val (.int p1), .val (.ref b1), .val (.ref b5), .val (.ref b9), .val (.ref b13), .val (.ref b17), .val (.ref b21), .val (.int (0 : Int32)), .val (.int (0 : Int32)), .val (.ref b33)] [(.int (1 : Int32))]))
      refine Runs.by (fun _ hr => XS.goto X40.here hx rfl (pc0 := 128) (pc' := 132) rfl (hb hby at_128) (by decide) (by decide) hr) ?_
      show Runs p e below _ (T40.setTop (mkF m 132 #[.val (.int p0), .val (.int p1), .val (.ref b1), .val (.ref b5), .val (.ref b9), .val (.ref b13), .val (.ref b17), .val (.ref b21), .val (.int (0 : Int32)), .val (.int (0 : Int32)), .val (.ref b33)] [(.int (1 : Int32))]))
      refine Runs.ret X40 hx hrt hlk (Or.inl ⟨rfl, by simp, _, rfl⟩) (by rfl) (hb hby at_132) (by decide) (by decide) ?_
      rw [eq40]
      exact ⟨rfl, N40⟩
    · skip
      show Runs p e below _ (T36.setTop (mkF m 107 #[.val (.int p0), .val (.int p1), .val (.ref b1), .val (.ref b5), .val (.ref b9), .val (.ref b13), .val (.ref b17), .val (.ref b21), .val (.int (1 : Int32)), .val (.int (0 : Int32)), .val (.ref b33)] []))
      refine Runs.by (fun _ hr => XS.aload X36.here hx rfl (hb hby at_107) rfl rfl hr) ?_
      show Runs p e below _ (T36.setTop (mkF m 109 #[.val (.int p0), .val (.int p1), .val (.ref b1), .val (.ref b5), .val (.ref b9), .val (.ref b13), .val (.ref b17), .val (.ref b21), .val (.int (1 : Int32)), .val (.int (0 : Int32)), .val (.ref b33)] [(.ref b21)]))
      refine Runs.by (fun _ hr => XS.iload X36.here hx rfl (hb hby at_109) rfl  hr) ?_
      show Runs p e below _ (T36.setTop (mkF m 111 #[.val (.int p0), .val (.int p1), .val (.ref b1), .val (.ref b5), .val (.ref b9), .val (.ref b13), .val (.ref b17), .val (.ref b21), .val (.int (1 : Int32)), .val (.int (0 : Int32)), .val (.ref b33)] [(.int (1 : Int32)), (.ref b21)]))
      obtain ⟨cl41, Ar41, -, S41, N41', H41, -⟩ := id ((V31.ext E33).keep Kq36 (ninS ne_b21_b33 nin0))
      have hin41 : ¬ ((1 : Int32) < 0 ∨ cl41.slots.size ≤ ((1 : Int32)).toNatClampNeg) := inb_of S41 ⟨by decide, by decide⟩
      have hat41 := H41.at hin41 (v := (.ref b5)) rfl
      refine Runs.by (fun t hr => X36.aaload hx (j := (1 : Int32)) (v := (.ref b5)) (by exact Ar41.1) (State.isArrayOf_alike hZ.alike Ar41.2.1) rfl Ar41.2.2 hin41 hat41 (g := (mkF m 111 #[.val (.int p0), .val (.int p1), .val (.ref b1), .val (.ref b5), .val (.ref b9), .val (.ref b13), .val (.ref b17), .val (.ref b21), .val (.int (1 : Int32)), .val (.int (0 : Int32)), .val (.ref b33)] [(.int (1 : Int32)), (.ref b21)])) rfl rfl (hb hby at_111) t hr) ?_
      show Runs p e below _ (T36.setTop (mkF m 112 #[.val (.int p0), .val (.int p1), .val (.ref b1), .val (.ref b5), .val (.ref b9), .val (.ref b13), .val (.ref b17), .val (.ref b21), .val (.int (1 : Int32)), .val (.int (0 : Int32)), .val (.ref b33)] [(.ref b5)]))
      refine Runs.by (fun _ hr => XS.aload X36.here hx rfl (hb hby at_112) rfl rfl hr) ?_
      show Runs p e below _ (T36.setTop (mkF m 114 #[.val (.int p0), .val (.int p1), .val (.ref b1), .val (.ref b5), .val (.ref b9), .val (.ref b13), .val (.ref b17), .val (.ref b21), .val (.int (1 : Int32)), .val (.int (0 : Int32)), .val (.ref b33)] [(.ref b33), (.ref b5)]))
      obtain ⟨cq42, kq42, q42a, q42b, q42c⟩ := isOf hZ rfl ((((((((((((((f7_0.ext E9).keep Kq11).ext E13).keep Kq15).ext E17).keep Kq19).ext E21).wr W23).wr W25).wr W27).wr W29).wr W31).ext E33).keep Kq36)
      obtain ⟨_, _, ⟨T42, L42, k42, n42⟩, -, X42, ⟨Lc42, hQ42, l42, y42, z42⟩, st42⟩ := X36.virtualBack hx (y := (⟨"com/example/prorata/prorata/request/Form", "has", "(Lcom/example/prorata/prorata/request/Form$Field;)Z"⟩ : MethodName)) (z := (⟨"com/example/prorata/prorata/request/Form", "has", "(Lcom/example/prorata/prorata/request/Form$Field;)Z"⟩ : MethodName)) hown (mvT hZ (hw _ (List.mem_of_getElem? (i := 54) rfl))) (mvT hZ (hw _ (List.mem_of_getElem? (i := 55) rfl))) (notFace_of_selects (args := #[]) (mvT hZ (hw _ (List.mem_of_getElem? (i := 57) rfl)))) (mvT hZ (hw _ (List.mem_of_getElem? (i := 57) rfl))) (mvT hZ (hw _ (List.mem_of_getElem? (i := 56) rfl))) (by decide) (backOf (W := 0) (rm8_2 l Z a0 hw [] b5 b33 b1 b1 T36.heap n0 (Nat.le_trans Z0 K37.1) f36_0 f36_1 ((((((((((((((f7_0.ext E9).keep Kq11).ext E13).keep Kq15).ext E17).keep Kq19).ext E21).wr W23).wr W25).wr W27).wr W29).wr W31).ext E33).keep Kq36) ((((((((((((((f7_1.ext E9).keep Kq11 (ninS ne_b5_b9 nin0)).ext E13).keep Kq15 (ninS ne_b5_b13 nin0)).ext E17).keep Kq19 (ninS ne_b5_b17 nin0)).ext E21).other W23 (Or.inl ne_b5_b21)).other W25 (Or.inl ne_b5_b21)).other W27 (Or.inl ne_b5_b21)).other W29 (Or.inl ne_b5_b21)).other W31 (Or.inl ne_b5_b21)).ext E33).keep Kq36 (ninS ne_b5_b33 nin0)) ((((((((((((((((f3_0.ext E5).keep Kq7).ext E9).keep Kq11).ext E13).keep Kq15).ext E17).keep Kq19).ext E21).wr W23).wr W25).wr W27).wr W29).wr W31).ext E33).keep Kq36) ((((((((((((((((f3_1.ext E5).keep Kq7 (ninS ne_b1_b5 nin0)).ext E9).keep Kq11 (ninS ne_b1_b9 nin0)).ext E13).keep Kq15 (ninS ne_b1_b13 nin0)).ext E17).keep Kq19 (ninS ne_b1_b17 nin0)).ext E21).other W23 (Or.inl ne_b1_b21)).other W25 (Or.inl ne_b1_b21)).other W27 (Or.inl ne_b1_b21)).other W29 (Or.inl ne_b1_b21)).other W31 (Or.inl ne_b1_b21)).ext E33).keep Kq36 (ninS ne_b1_b33 nin0))) hZ (hw _ (List.mem_of_getElem? (i := 58) rfl)) (hw _ (List.mem_of_getElem? (i := 2) rfl)) (by decide) (by decide)) q42a q42c (g := (mkF m 114 #[.val (.int p0), .val (.int p1), .val (.ref b1), .val (.ref b5), .val (.ref b9), .val (.ref b13), .val (.ref b17), .val (.ref b21), .val (.int (1 : Int32)), .val (.int (0 : Int32)), .val (.ref b33)] [(.ref b33), (.ref b5)])) rfl (by rw [hml]; rfl) (Steps.refl _) (argsL := [(.ref b33)]) (rest := []) (lenOf pd_3 rfl) rfl (by show 2 * 0 + _ ≤ _; exact Nat.le_of_eq rfl) (hb hby at_114) (fun _ _ => ⟨rfl, rfl, (by decide : 12 + 0 ≤ _), (by decide : 58 + 0 ≤ _)⟩)
      dsimp only [Pt.U, Pt.locs, Pt.cells, Pt.slots] at X42 l42 y42 z42 st42 hQ42
      subst l42 y42 z42
      obtain ⟨rfl, Nq42, eq42⟩ := hQ42
      have N42 := Fr.app N36 Nq42
      refine Runs.by (fun _ hr => st42.trans hr) ?_
      rw [show own_has [b5, b1] b1 = (1 : Int32) from by simp [own_has, (ne_b1_b5 : ¬ b1 = b5)]]
      show Runs p e below _ (T42.setTop (mkF m 117 #[.val (.int p0), .val (.int p1), .val (.ref b1), .val (.ref b5), .val (.ref b9), .val (.ref b13), .val (.ref b17), .val (.ref b21), .val (.int (1 : Int32)), .val (.int (0 : Int32)), .val (.ref b33)] [(.int (1 : Int32))]))
      refine Runs.by (fun _ hr => XS.iload X42.here hx rfl (hb hby at_117) rfl  hr) ?_
      show Runs p e below _ (T42.setTop (mkF m 119 #[.val (.int p0), .val (.int p1), .val (.ref b1), .val (.ref b5), .val (.ref b9), .val (.ref b13), .val (.ref b17), .val (.ref b21), .val (.int (1 : Int32)), .val (.int (0 : Int32)), .val (.ref b33)] [(.int (1 : Int32)), (.int (1 : Int32))]))
      refine Runs.by (fun _ hr => XS.iload X42.here hx rfl (hb hby at_119) rfl  hr) ?_
      show Runs p e below _ (T42.setTop (mkF m 121 #[.val (.int p0), .val (.int p1), .val (.ref b1), .val (.ref b5), .val (.ref b9), .val (.ref b13), .val (.ref b17), .val (.ref b21), .val (.int (1 : Int32)), .val (.int (0 : Int32)), .val (.ref b33)] [(.int (0 : Int32)), (.int (1 : Int32)), (.int (1 : Int32))]))
      obtain ⟨_, _, ⟨T43, L43, k43, n43⟩, -, X43, ⟨Lc43, hQ43, l43, y43, z43⟩, st43⟩ := Jvm.LawKit.callS X42 hx (y := (⟨"com/example/prorata/prorata/request/FormHasPinLaw", "reaches", "(II)Z"⟩ : MethodName)) hown (mvT hZ (hw _ (List.mem_of_getElem? (i := 64) rfl))) (mvT hZ (hw _ (List.mem_of_getElem? (i := 65) rfl))) (mvT hZ (hw _ (List.mem_of_getElem? (i := 66) rfl))) (mvT hZ (hw _ (List.mem_of_getElem? (i := 67) rfl))) (by decide) (backOf (W := 1) (rm10 l Z a0 hw [] (1 : Int32) (0 : Int32)  T36.heap n0 (Nat.le_trans Z0 K37.1) ) hZ (hw _ (List.mem_of_getElem? (i := 67) rfl)) (hw _ (List.mem_of_getElem? (i := 66) rfl)) (by decide) (by decide)) (g := (mkF m 121 #[.val (.int p0), .val (.int p1), .val (.ref b1), .val (.ref b5), .val (.ref b9), .val (.ref b13), .val (.ref b17), .val (.ref b21), .val (.int (1 : Int32)), .val (.int (0 : Int32)), .val (.ref b33)] [(.int (0 : Int32)), (.int (1 : Int32)), (.int (1 : Int32))])) rfl (by rw [hml]; rfl) (argsL := [(.int (1 : Int32)), (.int (0 : Int32))]) (rest := [(.int (1 : Int32))]) (lenOf pd_5 rfl) rfl (by show 2 * 0 + _ ≤ _; exact Nat.le_of_eq rfl) (hb hby at_121) (fun _ _ => ⟨rfl, eq42, (by decide : 12 + 0 ≤ _), (by decide : 58 + 0 ≤ _)⟩)
      dsimp only [Pt.U, Pt.locs, Pt.cells, Pt.slots] at X43 l43 y43 z43 st43 hQ43
      subst l43 y43 z43
      obtain ⟨rfl, Nq43, eq43⟩ := hQ43
      have N43 := Fr.app N42 Nq43
      refine Runs.by (fun t hr => st43 t hr) ?_
      rw [show own_reach (1 : Int32) (0 : Int32) = (1 : Int32) from by decide]
      show Runs p e below _ (T43.setTop (mkF m 124 #[.val (.int p0), .val (.int p1), .val (.ref b1), .val (.ref b5), .val (.ref b9), .val (.ref b13), .val (.ref b17), .val (.ref b21), .val (.int (1 : Int32)), .val (.int (0 : Int32)), .val (.ref b33)] [(.int (1 : Int32)), (.int (1 : Int32))]))
      have hc124 : (1 : Int32) = (1 : Int32) := (by decide)
      refine Runs.by (fun _ hr => XS.icmpNo X43.here hx rfl (hb hby at_124) rfl (teq hc124).2 hr) ?_
      show Runs p e below _ (T43.setTop (mkF m 127 #[.val (.int p0), .val (.int p1), .val (.ref b1), .val (.ref b5), .val (.ref b9), .val (.ref b13), .val (.ref b17), .val (.ref b21), .val (.int (1 : Int32)), .val (.int (0 : Int32)), .val (.ref b33)] []))
      refine Runs.by (fun _ hr => XS.iconst X43.here hx rfl (hb hby at_127) hr) ?_
      show Runs p e below _ (T43.setTop (mkF m 128 #[.val (.int p0), .val (.int p1), .val (.ref b1), .val (.ref b5), .val (.ref b9), .val (.ref b13), .val (.ref b17), .val (.ref b21), .val (.int (1 : Int32)), .val (.int (0 : Int32)), .val (.ref b33)] [(.int (1 : Int32))]))
      refine Runs.by (fun _ hr => XS.goto X43.here hx rfl (pc0 := 128) (pc' := 132) rfl (hb hby at_128) (by decide) (by decide) hr) ?_
      show Runs p e below _ (T43.setTop (mkF m 132 #[.val (.int p0), .val (.int p1), .val (.ref b1), .val (.ref b5), .val (.ref b9), .val (.ref b13), .val (.ref b17), .val (.ref b21), .val (.int (1 : Int32)), .val (.int (0 : Int32)), .val (.ref b33)] [(.int (1 : Int32))]))
      refine Runs.ret X43 hx hrt hlk (Or.inl ⟨rfl, by simp, _, rfl⟩) (by rfl) (hb hby at_132) (by decide) (by decide) ?_
      rw [eq43]
      exact ⟨rfl, N43⟩
    · skip
      show Runs p e below _ (T36.setTop (mkF m 107 #[.val (.int p0), .val (.int p1), .val (.ref b1), .val (.ref b5), .val (.ref b9), .val (.ref b13), .val (.ref b17), .val (.ref b21), .val (.int (2 : Int32)), .val (.int (0 : Int32)), .val (.ref b33)] []))
      refine Runs.by (fun _ hr => XS.aload X36.here hx rfl (hb hby at_107) rfl rfl hr) ?_
      show Runs p e below _ (T36.setTop (mkF m 109 #[.val (.int p0), .val (.int p1), .val (.ref b1), .val (.ref b5), .val (.ref b9), .val (.ref b13), .val (.ref b17), .val (.ref b21), .val (.int (2 : Int32)), .val (.int (0 : Int32)), .val (.ref b33)] [(.ref b21)]))
      refine Runs.by (fun _ hr => XS.iload X36.here hx rfl (hb hby at_109) rfl  hr) ?_
      show Runs p e below _ (T36.setTop (mkF m 111 #[.val (.int p0), .val (.int p1), .val (.ref b1), .val (.ref b5), .val (.ref b9), .val (.ref b13), .val (.ref b17), .val (.ref b21), .val (.int (2 : Int32)), .val (.int (0 : Int32)), .val (.ref b33)] [(.int (2 : Int32)), (.ref b21)]))
      obtain ⟨cl44, Ar44, -, S44, N44', H44, -⟩ := id ((V31.ext E33).keep Kq36 (ninS ne_b21_b33 nin0))
      have hin44 : ¬ ((2 : Int32) < 0 ∨ cl44.slots.size ≤ ((2 : Int32)).toNatClampNeg) := inb_of S44 ⟨by decide, by decide⟩
      have hat44 := H44.at hin44 (v := (.ref b9)) rfl
      refine Runs.by (fun t hr => X36.aaload hx (j := (2 : Int32)) (v := (.ref b9)) (by exact Ar44.1) (State.isArrayOf_alike hZ.alike Ar44.2.1) rfl Ar44.2.2 hin44 hat44 (g := (mkF m 111 #[.val (.int p0), .val (.int p1), .val (.ref b1), .val (.ref b5), .val (.ref b9), .val (.ref b13), .val (.ref b17), .val (.ref b21), .val (.int (2 : Int32)), .val (.int (0 : Int32)), .val (.ref b33)] [(.int (2 : Int32)), (.ref b21)])) rfl rfl (hb hby at_111) t hr) ?_
      show Runs p e below _ (T36.setTop (mkF m 112 #[.val (.int p0), .val (.int p1), .val (.ref b1), .val (.ref b5), .val (.ref b9), .val (.ref b13), .val (.ref b17), .val (.ref b21), .val (.int (2 : Int32)), .val (.int (0 : Int32)), .val (.ref b33)] [(.ref b9)]))
      refine Runs.by (fun _ hr => XS.aload X36.here hx rfl (hb hby at_112) rfl rfl hr) ?_
      show Runs p e below _ (T36.setTop (mkF m 114 #[.val (.int p0), .val (.int p1), .val (.ref b1), .val (.ref b5), .val (.ref b9), .val (.ref b13), .val (.ref b17), .val (.ref b21), .val (.int (2 : Int32)), .val (.int (0 : Int32)), .val (.ref b33)] [(.ref b33), (.ref b9)]))
      obtain ⟨cq45, kq45, q45a, q45b, q45c⟩ := isOf hZ rfl ((((((((((((f11_0.ext E13).keep Kq15).ext E17).keep Kq19).ext E21).wr W23).wr W25).wr W27).wr W29).wr W31).ext E33).keep Kq36)
      obtain ⟨_, _, ⟨T45, L45, k45, n45⟩, -, X45, ⟨Lc45, hQ45, l45, y45, z45⟩, st45⟩ := X36.virtualBack hx (y := (⟨"com/example/prorata/prorata/request/Form", "has", "(Lcom/example/prorata/prorata/request/Form$Field;)Z"⟩ : MethodName)) (z := (⟨"com/example/prorata/prorata/request/Form", "has", "(Lcom/example/prorata/prorata/request/Form$Field;)Z"⟩ : MethodName)) hown (mvT hZ (hw _ (List.mem_of_getElem? (i := 54) rfl))) (mvT hZ (hw _ (List.mem_of_getElem? (i := 55) rfl))) (notFace_of_selects (args := #[]) (mvT hZ (hw _ (List.mem_of_getElem? (i := 57) rfl)))) (mvT hZ (hw _ (List.mem_of_getElem? (i := 57) rfl))) (mvT hZ (hw _ (List.mem_of_getElem? (i := 56) rfl))) (by decide) (backOf (W := 0) (rm8_3 l Z a0 hw [] b9 b33 b1 b5 b1 T36.heap n0 (Nat.le_trans Z0 K37.1) f36_0 f36_1 ((((((((((((f11_0.ext E13).keep Kq15).ext E17).keep Kq19).ext E21).wr W23).wr W25).wr W27).wr W29).wr W31).ext E33).keep Kq36) ((((((((((((f11_1.ext E13).keep Kq15 (ninS ne_b9_b13 nin0)).ext E17).keep Kq19 (ninS ne_b9_b17 nin0)).ext E21).other W23 (Or.inl ne_b9_b21)).other W25 (Or.inl ne_b9_b21)).other W27 (Or.inl ne_b9_b21)).other W29 (Or.inl ne_b9_b21)).other W31 (Or.inl ne_b9_b21)).ext E33).keep Kq36 (ninS ne_b9_b33 nin0)) ((((((((((((((f7_0.ext E9).keep Kq11).ext E13).keep Kq15).ext E17).keep Kq19).ext E21).wr W23).wr W25).wr W27).wr W29).wr W31).ext E33).keep Kq36) ((((((((((((((f7_1.ext E9).keep Kq11 (ninS ne_b5_b9 nin0)).ext E13).keep Kq15 (ninS ne_b5_b13 nin0)).ext E17).keep Kq19 (ninS ne_b5_b17 nin0)).ext E21).other W23 (Or.inl ne_b5_b21)).other W25 (Or.inl ne_b5_b21)).other W27 (Or.inl ne_b5_b21)).other W29 (Or.inl ne_b5_b21)).other W31 (Or.inl ne_b5_b21)).ext E33).keep Kq36 (ninS ne_b5_b33 nin0)) ((((((((((((((((f3_0.ext E5).keep Kq7).ext E9).keep Kq11).ext E13).keep Kq15).ext E17).keep Kq19).ext E21).wr W23).wr W25).wr W27).wr W29).wr W31).ext E33).keep Kq36) ((((((((((((((((f3_1.ext E5).keep Kq7 (ninS ne_b1_b5 nin0)).ext E9).keep Kq11 (ninS ne_b1_b9 nin0)).ext E13).keep Kq15 (ninS ne_b1_b13 nin0)).ext E17).keep Kq19 (ninS ne_b1_b17 nin0)).ext E21).other W23 (Or.inl ne_b1_b21)).other W25 (Or.inl ne_b1_b21)).other W27 (Or.inl ne_b1_b21)).other W29 (Or.inl ne_b1_b21)).other W31 (Or.inl ne_b1_b21)).ext E33).keep Kq36 (ninS ne_b1_b33 nin0))) hZ (hw _ (List.mem_of_getElem? (i := 58) rfl)) (hw _ (List.mem_of_getElem? (i := 2) rfl)) (by decide) (by decide)) q45a q45c (g := (mkF m 114 #[.val (.int p0), .val (.int p1), .val (.ref b1), .val (.ref b5), .val (.ref b9), .val (.ref b13), .val (.ref b17), .val (.ref b21), .val (.int (2 : Int32)), .val (.int (0 : Int32)), .val (.ref b33)] [(.ref b33), (.ref b9)])) rfl (by rw [hml]; rfl) (Steps.refl _) (argsL := [(.ref b33)]) (rest := []) (lenOf pd_3 rfl) rfl (by show 2 * 0 + _ ≤ _; exact Nat.le_of_eq rfl) (hb hby at_114) (fun _ _ => ⟨rfl, rfl, (by decide : 12 + 0 ≤ _), (by decide : 58 + 0 ≤ _)⟩)
      dsimp only [Pt.U, Pt.locs, Pt.cells, Pt.slots] at X45 l45 y45 z45 st45 hQ45
      subst l45 y45 z45
      obtain ⟨rfl, Nq45, eq45⟩ := hQ45
      have N45 := Fr.app N36 Nq45
      refine Runs.by (fun _ hr => st45.trans hr) ?_
      rw [show own_has [b9, b5, b1] b1 = (1 : Int32) from by simp [own_has, (ne_b1_b9 : ¬ b1 = b9), (ne_b1_b5 : ¬ b1 = b5)]]
      show Runs p e below _ (T45.setTop (mkF m 117 #[.val (.int p0), .val (.int p1), .val (.ref b1), .val (.ref b5), .val (.ref b9), .val (.ref b13), .val (.ref b17), .val (.ref b21), .val (.int (2 : Int32)), .val (.int (0 : Int32)), .val (.ref b33)] [(.int (1 : Int32))]))
      refine Runs.by (fun _ hr => XS.iload X45.here hx rfl (hb hby at_117) rfl  hr) ?_
      show Runs p e below _ (T45.setTop (mkF m 119 #[.val (.int p0), .val (.int p1), .val (.ref b1), .val (.ref b5), .val (.ref b9), .val (.ref b13), .val (.ref b17), .val (.ref b21), .val (.int (2 : Int32)), .val (.int (0 : Int32)), .val (.ref b33)] [(.int (2 : Int32)), (.int (1 : Int32))]))
      refine Runs.by (fun _ hr => XS.iload X45.here hx rfl (hb hby at_119) rfl  hr) ?_
      show Runs p e below _ (T45.setTop (mkF m 121 #[.val (.int p0), .val (.int p1), .val (.ref b1), .val (.ref b5), .val (.ref b9), .val (.ref b13), .val (.ref b17), .val (.ref b21), .val (.int (2 : Int32)), .val (.int (0 : Int32)), .val (.ref b33)] [(.int (0 : Int32)), (.int (2 : Int32)), (.int (1 : Int32))]))
      obtain ⟨_, _, ⟨T46, L46, k46, n46⟩, -, X46, ⟨Lc46, hQ46, l46, y46, z46⟩, st46⟩ := Jvm.LawKit.callS X45 hx (y := (⟨"com/example/prorata/prorata/request/FormHasPinLaw", "reaches", "(II)Z"⟩ : MethodName)) hown (mvT hZ (hw _ (List.mem_of_getElem? (i := 64) rfl))) (mvT hZ (hw _ (List.mem_of_getElem? (i := 65) rfl))) (mvT hZ (hw _ (List.mem_of_getElem? (i := 66) rfl))) (mvT hZ (hw _ (List.mem_of_getElem? (i := 67) rfl))) (by decide) (backOf (W := 1) (rm10 l Z a0 hw [] (2 : Int32) (0 : Int32)  T36.heap n0 (Nat.le_trans Z0 K37.1) ) hZ (hw _ (List.mem_of_getElem? (i := 67) rfl)) (hw _ (List.mem_of_getElem? (i := 66) rfl)) (by decide) (by decide)) (g := (mkF m 121 #[.val (.int p0), .val (.int p1), .val (.ref b1), .val (.ref b5), .val (.ref b9), .val (.ref b13), .val (.ref b17), .val (.ref b21), .val (.int (2 : Int32)), .val (.int (0 : Int32)), .val (.ref b33)] [(.int (0 : Int32)), (.int (2 : Int32)), (.int (1 : Int32))])) rfl (by rw [hml]; rfl) (argsL := [(.int (2 : Int32)), (.int (0 : Int32))]) (rest := [(.int (1 : Int32))]) (lenOf pd_5 rfl) rfl (by show 2 * 0 + _ ≤ _; exact Nat.le_of_eq rfl) (hb hby at_121) (fun _ _ => ⟨rfl, eq45, (by decide : 12 + 0 ≤ _), (by decide : 58 + 0 ≤ _)⟩)
      dsimp only [Pt.U, Pt.locs, Pt.cells, Pt.slots] at X46 l46 y46 z46 st46 hQ46
      subst l46 y46 z46
      obtain ⟨rfl, Nq46, eq46⟩ := hQ46
      have N46 := Fr.app N45 Nq46
      refine Runs.by (fun t hr => st46 t hr) ?_
      rw [show own_reach (2 : Int32) (0 : Int32) = (1 : Int32) from by decide]
      show Runs p e below _ (T46.setTop (mkF m 124 #[.val (.int p0), .val (.int p1), .val (.ref b1), .val (.ref b5), .val (.ref b9), .val (.ref b13), .val (.ref b17), .val (.ref b21), .val (.int (2 : Int32)), .val (.int (0 : Int32)), .val (.ref b33)] [(.int (1 : Int32)), (.int (1 : Int32))]))
      have hc124 : (1 : Int32) = (1 : Int32) := (by decide)
      refine Runs.by (fun _ hr => XS.icmpNo X46.here hx rfl (hb hby at_124) rfl (teq hc124).2 hr) ?_
      show Runs p e below _ (T46.setTop (mkF m 127 #[.val (.int p0), .val (.int p1), .val (.ref b1), .val (.ref b5), .val (.ref b9), .val (.ref b13), .val (.ref b17), .val (.ref b21), .val (.int (2 : Int32)), .val (.int (0 : Int32)), .val (.ref b33)] []))
      refine Runs.by (fun _ hr => XS.iconst X46.here hx rfl (hb hby at_127) hr) ?_
      show Runs p e below _ (T46.setTop (mkF m 128 #[.val (.int p0), .val (.int p1), .val (.ref b1), .val (.ref b5), .val (.ref b9), .val (.ref b13), .val (.ref b17), .val (.ref b21), .val (.int (2 : Int32)), .val (.int (0 : Int32)), .val (.ref b33)] [(.int (1 : Int32))]))
      refine Runs.by (fun _ hr => XS.goto X46.here hx rfl (pc0 := 128) (pc' := 132) rfl (hb hby at_128) (by decide) (by decide) hr) ?_
      show Runs p e below _ (T46.setTop (mkF m 132 #[.val (.int p0), .val (.int p1), .val (.ref b1), .val (.ref b5), .val (.ref b9), .val (.ref b13), .val (.ref b17), .val (.ref b21), .val (.int (2 : Int32)), .val (.int (0 : Int32)), .val (.ref b33)] [(.int (1 : Int32))]))
      refine Runs.ret X46 hx hrt hlk (Or.inl ⟨rfl, by simp, _, rfl⟩) (by rfl) (hb hby at_132) (by decide) (by decide) ?_
      rw [eq46]
      exact ⟨rfl, N46⟩
    · skip
      show Runs p e below _ (T36.setTop (mkF m 107 #[.val (.int p0), .val (.int p1), .val (.ref b1), .val (.ref b5), .val (.ref b9), .val (.ref b13), .val (.ref b17), .val (.ref b21), .val (.int (3 : Int32)), .val (.int (0 : Int32)), .val (.ref b33)] []))
      refine Runs.by (fun _ hr => XS.aload X36.here hx rfl (hb hby at_107) rfl rfl hr) ?_
      show Runs p e below _ (T36.setTop (mkF m 109 #[.val (.int p0), .val (.int p1), .val (.ref b1), .val (.ref b5), .val (.ref b9), .val (.ref b13), .val (.ref b17), .val (.ref b21), .val (.int (3 : Int32)), .val (.int (0 : Int32)), .val (.ref b33)] [(.ref b21)]))
      refine Runs.by (fun _ hr => XS.iload X36.here hx rfl (hb hby at_109) rfl  hr) ?_
      show Runs p e below _ (T36.setTop (mkF m 111 #[.val (.int p0), .val (.int p1), .val (.ref b1), .val (.ref b5), .val (.ref b9), .val (.ref b13), .val (.ref b17), .val (.ref b21), .val (.int (3 : Int32)), .val (.int (0 : Int32)), .val (.ref b33)] [(.int (3 : Int32)), (.ref b21)]))
      obtain ⟨cl47, Ar47, -, S47, N47', H47, -⟩ := id ((V31.ext E33).keep Kq36 (ninS ne_b21_b33 nin0))
      have hin47 : ¬ ((3 : Int32) < 0 ∨ cl47.slots.size ≤ ((3 : Int32)).toNatClampNeg) := inb_of S47 ⟨by decide, by decide⟩
      have hat47 := H47.at hin47 (v := (.ref b13)) rfl
      refine Runs.by (fun t hr => X36.aaload hx (j := (3 : Int32)) (v := (.ref b13)) (by exact Ar47.1) (State.isArrayOf_alike hZ.alike Ar47.2.1) rfl Ar47.2.2 hin47 hat47 (g := (mkF m 111 #[.val (.int p0), .val (.int p1), .val (.ref b1), .val (.ref b5), .val (.ref b9), .val (.ref b13), .val (.ref b17), .val (.ref b21), .val (.int (3 : Int32)), .val (.int (0 : Int32)), .val (.ref b33)] [(.int (3 : Int32)), (.ref b21)])) rfl rfl (hb hby at_111) t hr) ?_
      show Runs p e below _ (T36.setTop (mkF m 112 #[.val (.int p0), .val (.int p1), .val (.ref b1), .val (.ref b5), .val (.ref b9), .val (.ref b13), .val (.ref b17), .val (.ref b21), .val (.int (3 : Int32)), .val (.int (0 : Int32)), .val (.ref b33)] [(.ref b13)]))
      refine Runs.by (fun _ hr => XS.aload X36.here hx rfl (hb hby at_112) rfl rfl hr) ?_
      show Runs p e below _ (T36.setTop (mkF m 114 #[.val (.int p0), .val (.int p1), .val (.ref b1), .val (.ref b5), .val (.ref b9), .val (.ref b13), .val (.ref b17), .val (.ref b21), .val (.int (3 : Int32)), .val (.int (0 : Int32)), .val (.ref b33)] [(.ref b33), (.ref b13)]))
      obtain ⟨cq48, kq48, q48a, q48b, q48c⟩ := isOf hZ rfl ((((((((((f15_0.ext E17).keep Kq19).ext E21).wr W23).wr W25).wr W27).wr W29).wr W31).ext E33).keep Kq36)
      obtain ⟨_, _, ⟨T48, L48, k48, n48⟩, -, X48, ⟨Lc48, hQ48, l48, y48, z48⟩, st48⟩ := X36.virtualBack hx (y := (⟨"com/example/prorata/prorata/request/Form", "has", "(Lcom/example/prorata/prorata/request/Form$Field;)Z"⟩ : MethodName)) (z := (⟨"com/example/prorata/prorata/request/Form", "has", "(Lcom/example/prorata/prorata/request/Form$Field;)Z"⟩ : MethodName)) hown (mvT hZ (hw _ (List.mem_of_getElem? (i := 54) rfl))) (mvT hZ (hw _ (List.mem_of_getElem? (i := 55) rfl))) (notFace_of_selects (args := #[]) (mvT hZ (hw _ (List.mem_of_getElem? (i := 57) rfl)))) (mvT hZ (hw _ (List.mem_of_getElem? (i := 57) rfl))) (mvT hZ (hw _ (List.mem_of_getElem? (i := 56) rfl))) (by decide) (backOf (W := 0) (rm8_2 l Z a0 hw [] b13 b33 b1 b1 T36.heap n0 (Nat.le_trans Z0 K37.1) f36_0 f36_1 ((((((((((f15_0.ext E17).keep Kq19).ext E21).wr W23).wr W25).wr W27).wr W29).wr W31).ext E33).keep Kq36) ((((((((((f15_1.ext E17).keep Kq19 (ninS ne_b13_b17 nin0)).ext E21).other W23 (Or.inl ne_b13_b21)).other W25 (Or.inl ne_b13_b21)).other W27 (Or.inl ne_b13_b21)).other W29 (Or.inl ne_b13_b21)).other W31 (Or.inl ne_b13_b21)).ext E33).keep Kq36 (ninS ne_b13_b33 nin0)) ((((((((((((((((f3_0.ext E5).keep Kq7).ext E9).keep Kq11).ext E13).keep Kq15).ext E17).keep Kq19).ext E21).wr W23).wr W25).wr W27).wr W29).wr W31).ext E33).keep Kq36) ((((((((((((((((f3_1.ext E5).keep Kq7 (ninS ne_b1_b5 nin0)).ext E9).keep Kq11 (ninS ne_b1_b9 nin0)).ext E13).keep Kq15 (ninS ne_b1_b13 nin0)).ext E17).keep Kq19 (ninS ne_b1_b17 nin0)).ext E21).other W23 (Or.inl ne_b1_b21)).other W25 (Or.inl ne_b1_b21)).other W27 (Or.inl ne_b1_b21)).other W29 (Or.inl ne_b1_b21)).other W31 (Or.inl ne_b1_b21)).ext E33).keep Kq36 (ninS ne_b1_b33 nin0))) hZ (hw _ (List.mem_of_getElem? (i := 58) rfl)) (hw _ (List.mem_of_getElem? (i := 2) rfl)) (by decide) (by decide)) q48a q48c (g := (mkF m 114 #[.val (.int p0), .val (.int p1), .val (.ref b1), .val (.ref b5), .val (.ref b9), .val (.ref b13), .val (.ref b17), .val (.ref b21), .val (.int (3 : Int32)), .val (.int (0 : Int32)), .val (.ref b33)] [(.ref b33), (.ref b13)])) rfl (by rw [hml]; rfl) (Steps.refl _) (argsL := [(.ref b33)]) (rest := []) (lenOf pd_3 rfl) rfl (by show 2 * 0 + _ ≤ _; exact Nat.le_of_eq rfl) (hb hby at_114) (fun _ _ => ⟨rfl, rfl, (by decide : 12 + 0 ≤ _), (by decide : 58 + 0 ≤ _)⟩)
      dsimp only [Pt.U, Pt.locs, Pt.cells, Pt.slots] at X48 l48 y48 z48 st48 hQ48
      subst l48 y48 z48
      obtain ⟨rfl, Nq48, eq48⟩ := hQ48
      have N48 := Fr.app N36 Nq48
      refine Runs.by (fun _ hr => st48.trans hr) ?_
      rw [show own_has [b13, b1] b1 = (1 : Int32) from by simp [own_has, (ne_b1_b13 : ¬ b1 = b13)]]
      show Runs p e below _ (T48.setTop (mkF m 117 #[.val (.int p0), .val (.int p1), .val (.ref b1), .val (.ref b5), .val (.ref b9), .val (.ref b13), .val (.ref b17), .val (.ref b21), .val (.int (3 : Int32)), .val (.int (0 : Int32)), .val (.ref b33)] [(.int (1 : Int32))]))
      refine Runs.by (fun _ hr => XS.iload X48.here hx rfl (hb hby at_117) rfl  hr) ?_
      show Runs p e below _ (T48.setTop (mkF m 119 #[.val (.int p0), .val (.int p1), .val (.ref b1), .val (.ref b5), .val (.ref b9), .val (.ref b13), .val (.ref b17), .val (.ref b21), .val (.int (3 : Int32)), .val (.int (0 : Int32)), .val (.ref b33)] [(.int (3 : Int32)), (.int (1 : Int32))]))
      refine Runs.by (fun _ hr => XS.iload X48.here hx rfl (hb hby at_119) rfl  hr) ?_
      show Runs p e below _ (T48.setTop (mkF m 121 #[.val (.int p0), .val (.int p1), .val (.ref b1), .val (.ref b5), .val (.ref b9), .val (.ref b13), .val (.ref b17), .val (.ref b21), .val (.int (3 : Int32)), .val (.int (0 : Int32)), .val (.ref b33)] [(.int (0 : Int32)), (.int (3 : Int32)), (.int (1 : Int32))]))
      obtain ⟨_, _, ⟨T49, L49, k49, n49⟩, -, X49, ⟨Lc49, hQ49, l49, y49, z49⟩, st49⟩ := Jvm.LawKit.callS X48 hx (y := (⟨"com/example/prorata/prorata/request/FormHasPinLaw", "reaches", "(II)Z"⟩ : MethodName)) hown (mvT hZ (hw _ (List.mem_of_getElem? (i := 64) rfl))) (mvT hZ (hw _ (List.mem_of_getElem? (i := 65) rfl))) (mvT hZ (hw _ (List.mem_of_getElem? (i := 66) rfl))) (mvT hZ (hw _ (List.mem_of_getElem? (i := 67) rfl))) (by decide) (backOf (W := 1) (rm10 l Z a0 hw [] (3 : Int32) (0 : Int32)  T36.heap n0 (Nat.le_trans Z0 K37.1) ) hZ (hw _ (List.mem_of_getElem? (i := 67) rfl)) (hw _ (List.mem_of_getElem? (i := 66) rfl)) (by decide) (by decide)) (g := (mkF m 121 #[.val (.int p0), .val (.int p1), .val (.ref b1), .val (.ref b5), .val (.ref b9), .val (.ref b13), .val (.ref b17), .val (.ref b21), .val (.int (3 : Int32)), .val (.int (0 : Int32)), .val (.ref b33)] [(.int (0 : Int32)), (.int (3 : Int32)), (.int (1 : Int32))])) rfl (by rw [hml]; rfl) (argsL := [(.int (3 : Int32)), (.int (0 : Int32))]) (rest := [(.int (1 : Int32))]) (lenOf pd_5 rfl) rfl (by show 2 * 0 + _ ≤ _; exact Nat.le_of_eq rfl) (hb hby at_121) (fun _ _ => ⟨rfl, eq48, (by decide : 12 + 0 ≤ _), (by decide : 58 + 0 ≤ _)⟩)
      dsimp only [Pt.U, Pt.locs, Pt.cells, Pt.slots] at X49 l49 y49 z49 st49 hQ49
      subst l49 y49 z49
      obtain ⟨rfl, Nq49, eq49⟩ := hQ49
      have N49 := Fr.app N48 Nq49
      refine Runs.by (fun t hr => st49 t hr) ?_
      rw [show own_reach (3 : Int32) (0 : Int32) = (1 : Int32) from by decide]
      show Runs p e below _ (T49.setTop (mkF m 124 #[.val (.int p0), .val (.int p1), .val (.ref b1), .val (.ref b5), .val (.ref b9), .val (.ref b13), .val (.ref b17), .val (.ref b21), .val (.int (3 : Int32)), .val (.int (0 : Int32)), .val (.ref b33)] [(.int (1 : Int32)), (.int (1 : Int32))]))
      have hc124 : (1 : Int32) = (1 : Int32) := (by decide)
      refine Runs.by (fun _ hr => XS.icmpNo X49.here hx rfl (hb hby at_124) rfl (teq hc124).2 hr) ?_
      show Runs p e below _ (T49.setTop (mkF m 127 #[.val (.int p0), .val (.int p1), .val (.ref b1), .val (.ref b5), .val (.ref b9), .val (.ref b13), .val (.ref b17), .val (.ref b21), .val (.int (3 : Int32)), .val (.int (0 : Int32)), .val (.ref b33)] []))
      refine Runs.by (fun _ hr => XS.iconst X49.here hx rfl (hb hby at_127) hr) ?_
      show Runs p e below _ (T49.setTop (mkF m 128 #[.val (.int p0), .val (.int p1), .val (.ref b1), .val (.ref b5), .val (.ref b9), .val (.ref b13), .val (.ref b17), .val (.ref b21), .val (.int (3 : Int32)), .val (.int (0 : Int32)), .val (.ref b33)] [(.int (1 : Int32))]))
      refine Runs.by (fun _ hr => XS.goto X49.here hx rfl (pc0 := 128) (pc' := 132) rfl (hb hby at_128) (by decide) (by decide) hr) ?_
      show Runs p e below _ (T49.setTop (mkF m 132 #[.val (.int p0), .val (.int p1), .val (.ref b1), .val (.ref b5), .val (.ref b9), .val (.ref b13), .val (.ref b17), .val (.ref b21), .val (.int (3 : Int32)), .val (.int (0 : Int32)), .val (.ref b33)] [(.int (1 : Int32))]))
      refine Runs.ret X49 hx hrt hlk (Or.inl ⟨rfl, by simp, _, rfl⟩) (by rfl) (hb hby at_132) (by decide) (by decide) ?_
      rw [eq49]
      exact ⟨rfl, N49⟩
    · skip
      show Runs p e below _ (T36.setTop (mkF m 107 #[.val (.int p0), .val (.int p1), .val (.ref b1), .val (.ref b5), .val (.ref b9), .val (.ref b13), .val (.ref b17), .val (.ref b21), .val (.int (4 : Int32)), .val (.int (0 : Int32)), .val (.ref b33)] []))
      refine Runs.by (fun _ hr => XS.aload X36.here hx rfl (hb hby at_107) rfl rfl hr) ?_
      show Runs p e below _ (T36.setTop (mkF m 109 #[.val (.int p0), .val (.int p1), .val (.ref b1), .val (.ref b5), .val (.ref b9), .val (.ref b13), .val (.ref b17), .val (.ref b21), .val (.int (4 : Int32)), .val (.int (0 : Int32)), .val (.ref b33)] [(.ref b21)]))
      refine Runs.by (fun _ hr => XS.iload X36.here hx rfl (hb hby at_109) rfl  hr) ?_
      show Runs p e below _ (T36.setTop (mkF m 111 #[.val (.int p0), .val (.int p1), .val (.ref b1), .val (.ref b5), .val (.ref b9), .val (.ref b13), .val (.ref b17), .val (.ref b21), .val (.int (4 : Int32)), .val (.int (0 : Int32)), .val (.ref b33)] [(.int (4 : Int32)), (.ref b21)]))
      obtain ⟨cl50, Ar50, -, S50, N50', H50, -⟩ := id ((V31.ext E33).keep Kq36 (ninS ne_b21_b33 nin0))
      have hin50 : ¬ ((4 : Int32) < 0 ∨ cl50.slots.size ≤ ((4 : Int32)).toNatClampNeg) := inb_of S50 ⟨by decide, by decide⟩
      have hat50 := H50.at hin50 (v := (.ref b17)) rfl
      refine Runs.by (fun t hr => X36.aaload hx (j := (4 : Int32)) (v := (.ref b17)) (by exact Ar50.1) (State.isArrayOf_alike hZ.alike Ar50.2.1) rfl Ar50.2.2 hin50 hat50 (g := (mkF m 111 #[.val (.int p0), .val (.int p1), .val (.ref b1), .val (.ref b5), .val (.ref b9), .val (.ref b13), .val (.ref b17), .val (.ref b21), .val (.int (4 : Int32)), .val (.int (0 : Int32)), .val (.ref b33)] [(.int (4 : Int32)), (.ref b21)])) rfl rfl (hb hby at_111) t hr) ?_
      show Runs p e below _ (T36.setTop (mkF m 112 #[.val (.int p0), .val (.int p1), .val (.ref b1), .val (.ref b5), .val (.ref b9), .val (.ref b13), .val (.ref b17), .val (.ref b21), .val (.int (4 : Int32)), .val (.int (0 : Int32)), .val (.ref b33)] [(.ref b17)]))
      refine Runs.by (fun _ hr => XS.aload X36.here hx rfl (hb hby at_112) rfl rfl hr) ?_
      show Runs p e below _ (T36.setTop (mkF m 114 #[.val (.int p0), .val (.int p1), .val (.ref b1), .val (.ref b5), .val (.ref b9), .val (.ref b13), .val (.ref b17), .val (.ref b21), .val (.int (4 : Int32)), .val (.int (0 : Int32)), .val (.ref b33)] [(.ref b33), (.ref b17)]))
      obtain ⟨cq51, kq51, q51a, q51b, q51c⟩ := isOf hZ rfl ((((((((f19_0.ext E21).wr W23).wr W25).wr W27).wr W29).wr W31).ext E33).keep Kq36)
      obtain ⟨_, _, ⟨T51, L51, k51, n51⟩, -, X51, ⟨Lc51, hQ51, l51, y51, z51⟩, st51⟩ := X36.virtualBack hx (y := (⟨"com/example/prorata/prorata/request/Form", "has", "(Lcom/example/prorata/prorata/request/Form$Field;)Z"⟩ : MethodName)) (z := (⟨"com/example/prorata/prorata/request/Form", "has", "(Lcom/example/prorata/prorata/request/Form$Field;)Z"⟩ : MethodName)) hown (mvT hZ (hw _ (List.mem_of_getElem? (i := 54) rfl))) (mvT hZ (hw _ (List.mem_of_getElem? (i := 55) rfl))) (notFace_of_selects (args := #[]) (mvT hZ (hw _ (List.mem_of_getElem? (i := 57) rfl)))) (mvT hZ (hw _ (List.mem_of_getElem? (i := 57) rfl))) (mvT hZ (hw _ (List.mem_of_getElem? (i := 56) rfl))) (by decide) (backOf (W := 0) (rm8_1 l Z a0 hw [] b17 b33 b1 T36.heap n0 (Nat.le_trans Z0 K37.1) f36_0 f36_1 ((((((((f19_0.ext E21).wr W23).wr W25).wr W27).wr W29).wr W31).ext E33).keep Kq36) ((((((((f19_1.ext E21).other W23 (Or.inl ne_b17_b21)).other W25 (Or.inl ne_b17_b21)).other W27 (Or.inl ne_b17_b21)).other W29 (Or.inl ne_b17_b21)).other W31 (Or.inl ne_b17_b21)).ext E33).keep Kq36 (ninS ne_b17_b33 nin0))) hZ (hw _ (List.mem_of_getElem? (i := 58) rfl)) (hw _ (List.mem_of_getElem? (i := 2) rfl)) (by decide) (by decide)) q51a q51c (g := (mkF m 114 #[.val (.int p0), .val (.int p1), .val (.ref b1), .val (.ref b5), .val (.ref b9), .val (.ref b13), .val (.ref b17), .val (.ref b21), .val (.int (4 : Int32)), .val (.int (0 : Int32)), .val (.ref b33)] [(.ref b33), (.ref b17)])) rfl (by rw [hml]; rfl) (Steps.refl _) (argsL := [(.ref b33)]) (rest := []) (lenOf pd_3 rfl) rfl (by show 2 * 0 + _ ≤ _; exact Nat.le_of_eq rfl) (hb hby at_114) (fun _ _ => ⟨rfl, rfl, (by decide : 12 + 0 ≤ _), (by decide : 58 + 0 ≤ _)⟩)
      dsimp only [Pt.U, Pt.locs, Pt.cells, Pt.slots] at X51 l51 y51 z51 st51 hQ51
      subst l51 y51 z51
      obtain ⟨rfl, Nq51, eq51⟩ := hQ51
      have N51 := Fr.app N36 Nq51
      refine Runs.by (fun _ hr => st51.trans hr) ?_
      rw [show own_has [b17] b1 = (0 : Int32) from by simp [own_has, (ne_b1_b17 : ¬ b1 = b17)]]
      show Runs p e below _ (T51.setTop (mkF m 117 #[.val (.int p0), .val (.int p1), .val (.ref b1), .val (.ref b5), .val (.ref b9), .val (.ref b13), .val (.ref b17), .val (.ref b21), .val (.int (4 : Int32)), .val (.int (0 : Int32)), .val (.ref b33)] [(.int (0 : Int32))]))
      refine Runs.by (fun _ hr => XS.iload X51.here hx rfl (hb hby at_117) rfl  hr) ?_
      show Runs p e below _ (T51.setTop (mkF m 119 #[.val (.int p0), .val (.int p1), .val (.ref b1), .val (.ref b5), .val (.ref b9), .val (.ref b13), .val (.ref b17), .val (.ref b21), .val (.int (4 : Int32)), .val (.int (0 : Int32)), .val (.ref b33)] [(.int (4 : Int32)), (.int (0 : Int32))]))
      refine Runs.by (fun _ hr => XS.iload X51.here hx rfl (hb hby at_119) rfl  hr) ?_
      show Runs p e below _ (T51.setTop (mkF m 121 #[.val (.int p0), .val (.int p1), .val (.ref b1), .val (.ref b5), .val (.ref b9), .val (.ref b13), .val (.ref b17), .val (.ref b21), .val (.int (4 : Int32)), .val (.int (0 : Int32)), .val (.ref b33)] [(.int (0 : Int32)), (.int (4 : Int32)), (.int (0 : Int32))]))
      obtain ⟨_, _, ⟨T52, L52, k52, n52⟩, -, X52, ⟨Lc52, hQ52, l52, y52, z52⟩, st52⟩ := Jvm.LawKit.callS X51 hx (y := (⟨"com/example/prorata/prorata/request/FormHasPinLaw", "reaches", "(II)Z"⟩ : MethodName)) hown (mvT hZ (hw _ (List.mem_of_getElem? (i := 64) rfl))) (mvT hZ (hw _ (List.mem_of_getElem? (i := 65) rfl))) (mvT hZ (hw _ (List.mem_of_getElem? (i := 66) rfl))) (mvT hZ (hw _ (List.mem_of_getElem? (i := 67) rfl))) (by decide) (backOf (W := 1) (rm10 l Z a0 hw [] (4 : Int32) (0 : Int32)  T36.heap n0 (Nat.le_trans Z0 K37.1) ) hZ (hw _ (List.mem_of_getElem? (i := 67) rfl)) (hw _ (List.mem_of_getElem? (i := 66) rfl)) (by decide) (by decide)) (g := (mkF m 121 #[.val (.int p0), .val (.int p1), .val (.ref b1), .val (.ref b5), .val (.ref b9), .val (.ref b13), .val (.ref b17), .val (.ref b21), .val (.int (4 : Int32)), .val (.int (0 : Int32)), .val (.ref b33)] [(.int (0 : Int32)), (.int (4 : Int32)), (.int (0 : Int32))])) rfl (by rw [hml]; rfl) (argsL := [(.int (4 : Int32)), (.int (0 : Int32))]) (rest := [(.int (0 : Int32))]) (lenOf pd_5 rfl) rfl (by show 2 * 0 + _ ≤ _; exact Nat.le_of_eq rfl) (hb hby at_121) (fun _ _ => ⟨rfl, eq51, (by decide : 12 + 0 ≤ _), (by decide : 58 + 0 ≤ _)⟩)
      dsimp only [Pt.U, Pt.locs, Pt.cells, Pt.slots] at X52 l52 y52 z52 st52 hQ52
      subst l52 y52 z52
      obtain ⟨rfl, Nq52, eq52⟩ := hQ52
      have N52 := Fr.app N51 Nq52
      refine Runs.by (fun t hr => st52 t hr) ?_
      rw [show own_reach (4 : Int32) (0 : Int32) = (0 : Int32) from by decide]
      show Runs p e below _ (T52.setTop (mkF m 124 #[.val (.int p0), .val (.int p1), .val (.ref b1), .val (.ref b5), .val (.ref b9), .val (.ref b13), .val (.ref b17), .val (.ref b21), .val (.int (4 : Int32)), .val (.int (0 : Int32)), .val (.ref b33)] [(.int (0 : Int32)), (.int (0 : Int32))]))
      have hc124 : (0 : Int32) = (0 : Int32) := (by decide)
      refine Runs.by (fun _ hr => XS.icmpNo X52.here hx rfl (hb hby at_124) rfl (teq hc124).2 hr) ?_
      show Runs p e below _ (T52.setTop (mkF m 127 #[.val (.int p0), .val (.int p1), .val (.ref b1), .val (.ref b5), .val (.ref b9), .val (.ref b13), .val (.ref b17), .val (.ref b21), .val (.int (4 : Int32)), .val (.int (0 : Int32)), .val (.ref b33)] []))
      refine Runs.by (fun _ hr => XS.iconst X52.here hx rfl (hb hby at_127) hr) ?_
      show Runs p e below _ (T52.setTop (mkF m 128 #[.val (.int p0), .val (.int p1), .val (.ref b1), .val (.ref b5), .val (.ref b9), .val (.ref b13), .val (.ref b17), .val (.ref b21), .val (.int (4 : Int32)), .val (.int (0 : Int32)), .val (.ref b33)] [(.int (1 : Int32))]))
      refine Runs.by (fun _ hr => XS.goto X52.here hx rfl (pc0 := 128) (pc' := 132) rfl (hb hby at_128) (by decide) (by decide) hr) ?_
      show Runs p e below _ (T52.setTop (mkF m 132 #[.val (.int p0), .val (.int p1), .val (.ref b1), .val (.ref b5), .val (.ref b9), .val (.ref b13), .val (.ref b17), .val (.ref b21), .val (.int (4 : Int32)), .val (.int (0 : Int32)), .val (.ref b33)] [(.int (1 : Int32))]))
      refine Runs.ret X52 hx hrt hlk (Or.inl ⟨rfl, by simp, _, rfl⟩) (by rfl) (hb hby at_132) (by decide) (by decide) ?_
      rw [eq52]
      exact ⟨rfl, N52⟩
  · skip
    show Runs p e below _ (T31.setTop (mkF m 91 #[.val (.int p0), .val (.int p1), .val (.ref b1), .val (.ref b5), .val (.ref b9), .val (.ref b13), .val (.ref b17), .val (.ref b21), .val (.int ((p0 &&& (2147483647 : Int32)) % (5 : Int32))), .val (.int (1 : Int32)), .unset] []))
    obtain ⟨T53, h53, X53, e53, E53, A53, D53, -, st53⟩ := newO X31 hx hZ hown (hw _ (List.mem_of_getElem? (i := 36) rfl)) (hw _ (List.mem_of_getElem? (i := 37) rfl)) (hw _ (List.mem_of_getElem? (i := 38) rfl)) e31 (g := (mkF m 91 #[.val (.int p0), .val (.int p1), .val (.ref b1), .val (.ref b5), .val (.ref b9), .val (.ref b13), .val (.ref b17), .val (.ref b21), .val (.int ((p0 &&& (2147483647 : Int32)) % (5 : Int32))), .val (.int (1 : Int32)), .unset] [])) rfl (hb hby at_91) (by decide) (by decide)
    obtain ⟨b53, gz53⟩ : ∃ z, z = h31.size := ⟨_, rfl⟩
    rw [← gz53] at A53 D53 st53
    have ne_b1_b53 : b1 ≠ b53 := Nat.ne_of_lt (Nat.lt_of_lt_of_le ((((((((((((((f3_0.ext E5).keep Kq7).ext E9).keep Kq11).ext E13).keep Kq15).ext E17).keep Kq19).ext E21).wr W23).wr W25).wr W27).wr W29).wr W31).lt (Nat.le_of_eq gz53.symm))
    have ne_b5_b53 : b5 ≠ b53 := Nat.ne_of_lt (Nat.lt_of_lt_of_le ((((((((((((f7_0.ext E9).keep Kq11).ext E13).keep Kq15).ext E17).keep Kq19).ext E21).wr W23).wr W25).wr W27).wr W29).wr W31).lt (Nat.le_of_eq gz53.symm))
    have ne_b9_b53 : b9 ≠ b53 := Nat.ne_of_lt (Nat.lt_of_lt_of_le ((((((((((f11_0.ext E13).keep Kq15).ext E17).keep Kq19).ext E21).wr W23).wr W25).wr W27).wr W29).wr W31).lt (Nat.le_of_eq gz53.symm))
    have ne_b13_b53 : b13 ≠ b53 := Nat.ne_of_lt (Nat.lt_of_lt_of_le ((((((((f15_0.ext E17).keep Kq19).ext E21).wr W23).wr W25).wr W27).wr W29).wr W31).lt (Nat.le_of_eq gz53.symm))
    have ne_b17_b53 : b17 ≠ b53 := Nat.ne_of_lt (Nat.lt_of_lt_of_le ((((((f19_0.ext E21).wr W23).wr W25).wr W27).wr W29).wr W31).lt (Nat.le_of_eq gz53.symm))
    have ne_b21_b53 : b21 ≠ b53 := Nat.ne_of_lt (Nat.lt_of_lt_of_le V31.lt (Nat.le_of_eq gz53.symm))
    have g_b53 : n0 ≤ b53 := Nat.le_trans (Nat.le_trans Z0 K32.1) (Nat.le_of_eq gz53.symm)
    have sz_b53 : h0.size ≤ b53 := Nat.le_trans K32.1 (Nat.le_of_eq gz53.symm)
    have K54 : Keep h0 h53 [] := K32.ext E53
    have F_form_b53 : Fld Z h53 b53 "com/example/prorata/prorata/request/Form$Field" "form" "Lcom/example/prorata/prorata/request/Form;" .null := D53 (Or.inr (hw _ (List.mem_of_getElem? (i := 49) rfl))) (ty := (.object "com/example/prorata/prorata/request/Form")) (by decide)
    have F_name_b53 : Fld Z h53 b53 "com/example/prorata/prorata/request/Form$Field" "name" "Ljava/lang/String;" .null := D53 (Or.inr (hw _ (List.mem_of_getElem? (i := 51) rfl))) (ty := (.object "java/lang/String")) (by decide)
    have F_holds_b53 : Fld Z h53 b53 "com/example/prorata/prorata/request/Form$Field" "holds" "Lcom/example/prorata/prorata/request/Form;" .null := D53 (Or.inr (hw _ (List.mem_of_getElem? (i := 53) rfl))) (ty := (.object "com/example/prorata/prorata/request/Form")) (by decide)
    refine Runs.by st53 ?_
    show Runs p e below _ (T53.setTop (mkF m 94 #[.val (.int p0), .val (.int p1), .val (.ref b1), .val (.ref b5), .val (.ref b9), .val (.ref b13), .val (.ref b17), .val (.ref b21), .val (.int ((p0 &&& (2147483647 : Int32)) % (5 : Int32))), .val (.int (1 : Int32)), .unset] [(.ref b53)]))
    refine Runs.by (fun _ hr => XS.dup X53.here hx rfl (hb hby at_94) rfl rfl hr) ?_
    show Runs p e below _ (T53.setTop (mkF m 95 #[.val (.int p0), .val (.int p1), .val (.ref b1), .val (.ref b5), .val (.ref b9), .val (.ref b13), .val (.ref b17), .val (.ref b21), .val (.int ((p0 &&& (2147483647 : Int32)) % (5 : Int32))), .val (.int (1 : Int32)), .unset] [(.ref b53), (.ref b53)]))
    refine Runs.by (fun _ hr => XS.aload X53.here hx rfl (hb hby at_95) rfl rfl hr) ?_
    show Runs p e below _ (T53.setTop (mkF m 97 #[.val (.int p0), .val (.int p1), .val (.ref b1), .val (.ref b5), .val (.ref b9), .val (.ref b13), .val (.ref b17), .val (.ref b21), .val (.int ((p0 &&& (2147483647 : Int32)) % (5 : Int32))), .val (.int (1 : Int32)), .unset] [(.ref b21), (.ref b53), (.ref b53)]))
    refine Runs.by (fun _ hr => XS.iload X53.here hx rfl (hb hby at_97) rfl  hr) ?_
    show Runs p e below _ (T53.setTop (mkF m 99 #[.val (.int p0), .val (.int p1), .val (.ref b1), .val (.ref b5), .val (.ref b9), .val (.ref b13), .val (.ref b17), .val (.ref b21), .val (.int ((p0 &&& (2147483647 : Int32)) % (5 : Int32))), .val (.int (1 : Int32)), .unset] [(.int (1 : Int32)), (.ref b21), (.ref b53), (.ref b53)]))
    obtain ⟨cl55, Ar55, -, S55, N55', H55, -⟩ := id (V31.ext E53)
    have hin55 : ¬ ((1 : Int32) < 0 ∨ cl55.slots.size ≤ ((1 : Int32)).toNatClampNeg) := inb_of S55 ⟨by decide, by decide⟩
    have hat55 := H55.at hin55 (v := (.ref b5)) rfl
    refine Runs.by (fun t hr => X53.aaload hx (j := (1 : Int32)) (v := (.ref b5)) (by rw [e53]; exact Ar55.1) (State.isArrayOf_alike hZ.alike Ar55.2.1) rfl Ar55.2.2 hin55 hat55 (g := (mkF m 99 #[.val (.int p0), .val (.int p1), .val (.ref b1), .val (.ref b5), .val (.ref b9), .val (.ref b13), .val (.ref b17), .val (.ref b21), .val (.int ((p0 &&& (2147483647 : Int32)) % (5 : Int32))), .val (.int (1 : Int32)), .unset] [(.int (1 : Int32)), (.ref b21), (.ref b53), (.ref b53)])) rfl rfl (hb hby at_99) t hr) ?_
    show Runs p e below _ (T53.setTop (mkF m 100 #[.val (.int p0), .val (.int p1), .val (.ref b1), .val (.ref b5), .val (.ref b9), .val (.ref b13), .val (.ref b17), .val (.ref b21), .val (.int ((p0 &&& (2147483647 : Int32)) % (5 : Int32))), .val (.int (1 : Int32)), .unset] [(.ref b5), (.ref b53), (.ref b53)]))
    refine Runs.by (fun _ hr => XS.aconstNull X53.here hx rfl (hb hby at_100) hr) ?_
    show Runs p e below _ (T53.setTop (mkF m 101 #[.val (.int p0), .val (.int p1), .val (.ref b1), .val (.ref b5), .val (.ref b9), .val (.ref b13), .val (.ref b17), .val (.ref b21), .val (.int ((p0 &&& (2147483647 : Int32)) % (5 : Int32))), .val (.int (1 : Int32)), .unset] [.null, (.ref b5), (.ref b53), (.ref b53)]))
    refine Runs.by (fun _ hr => XS.aconstNull X53.here hx rfl (hb hby at_101) hr) ?_
    show Runs p e below _ (T53.setTop (mkF m 102 #[.val (.int p0), .val (.int p1), .val (.ref b1), .val (.ref b5), .val (.ref b9), .val (.ref b13), .val (.ref b17), .val (.ref b21), .val (.int ((p0 &&& (2147483647 : Int32)) % (5 : Int32))), .val (.int (1 : Int32)), .unset] [.null, .null, (.ref b5), (.ref b53), (.ref b53)]))
    obtain ⟨_, _, ⟨T56, L56, k56, n56⟩, -, X56, ⟨Lc56, hQ56, l56, y56, z56⟩, st56⟩ := X53.specialBack hx (y := (⟨"com/example/prorata/prorata/request/Form$Field", "<init>", "(Lcom/example/prorata/prorata/request/Form;Ljava/lang/String;Lcom/example/prorata/prorata/request/Form;)V"⟩ : MethodName)) rfl hown (mvT hZ (hw _ (List.mem_of_getElem? (i := 39) rfl))) (mvT hZ (hw _ (List.mem_of_getElem? (i := 40) rfl))) (mvT hZ (hw _ (List.mem_of_getElem? (i := 41) rfl))) (by decide) (backOf (W := 1) (rm6 l Z a0 hw [] b53 b5  h53 n0 (Nat.le_trans Z0 K54.1) A53 F_form_b53 F_name_b53 F_holds_b53 g_b53) hZ (hw _ (List.mem_of_getElem? (i := 41) rfl)) (hw _ (List.mem_of_getElem? (i := 38) rfl)) (by decide) (by decide)) (g := (mkF m 102 #[.val (.int p0), .val (.int p1), .val (.ref b1), .val (.ref b5), .val (.ref b9), .val (.ref b13), .val (.ref b17), .val (.ref b21), .val (.int ((p0 &&& (2147483647 : Int32)) % (5 : Int32))), .val (.int (1 : Int32)), .unset] [.null, .null, (.ref b5), (.ref b53), (.ref b53)])) rfl (by rw [hml]; rfl) (Steps.refl _) (a := b53) (argsL := [(.ref b5), .null, .null]) (rest := [(.ref b53)]) (lenOf pd_4 rfl) rfl (by show 2 * 0 + _ ≤ _; exact Nat.le_of_eq rfl) (hb hby at_102) (fun _ _ => ⟨rfl, e53, (by decide : 12 + 0 ≤ _), (by decide : 58 + 0 ≤ _)⟩)
    dsimp only [Pt.U, Pt.locs, Pt.cells, Pt.slots] at X56 l56 y56 z56 st56 hQ56
    subst l56 y56 z56
    obtain ⟨rfl, Nq56, Kq56, f56_0, f56_1⟩ := hQ56
    have N56 := Fr.app N31 Nq56
    have K57 : Keep h0 T56.heap [] := Keep.trans (ws := []) K54 Kq56 (allS (Or.inr sz_b53) all0)
    refine Runs.by (fun _ hr => st56.trans hr) ?_
    show Runs p e below _ (T56.setTop (mkF m 105 #[.val (.int p0), .val (.int p1), .val (.ref b1), .val (.ref b5), .val (.ref b9), .val (.ref b13), .val (.ref b17), .val (.ref b21), .val (.int ((p0 &&& (2147483647 : Int32)) % (5 : Int32))), .val (.int (1 : Int32)), .unset] [(.ref b53)]))
    refine Runs.by (fun _ hr => XS.astore X56.here hx rfl (hb hby at_105) rfl rfl (l' := #[.val (.int p0), .val (.int p1), .val (.ref b1), .val (.ref b5), .val (.ref b9), .val (.ref b13), .val (.ref b17), .val (.ref b21), .val (.int ((p0 &&& (2147483647 : Int32)) % (5 : Int32))), .val (.int (1 : Int32)), .val (.ref b53)]) rfl hr) ?_
    have hk8 := own_mod5 p0
    generalize (p0 &&& (2147483647 : Int32)) % (5 : Int32) = kk at hk8 ⊢
    rcases hk8 with rfl | rfl | rfl | rfl | rfl
    · skip
      show Runs p e below _ (T56.setTop (mkF m 107 #[.val (.int p0), .val (.int p1), .val (.ref b1), .val (.ref b5), .val (.ref b9), .val (.ref b13), .val (.ref b17), .val (.ref b21), .val (.int (0 : Int32)), .val (.int (1 : Int32)), .val (.ref b53)] []))
      refine Runs.by (fun _ hr => XS.aload X56.here hx rfl (hb hby at_107) rfl rfl hr) ?_
      show Runs p e below _ (T56.setTop (mkF m 109 #[.val (.int p0), .val (.int p1), .val (.ref b1), .val (.ref b5), .val (.ref b9), .val (.ref b13), .val (.ref b17), .val (.ref b21), .val (.int (0 : Int32)), .val (.int (1 : Int32)), .val (.ref b53)] [(.ref b21)]))
      refine Runs.by (fun _ hr => XS.iload X56.here hx rfl (hb hby at_109) rfl  hr) ?_
      show Runs p e below _ (T56.setTop (mkF m 111 #[.val (.int p0), .val (.int p1), .val (.ref b1), .val (.ref b5), .val (.ref b9), .val (.ref b13), .val (.ref b17), .val (.ref b21), .val (.int (0 : Int32)), .val (.int (1 : Int32)), .val (.ref b53)] [(.int (0 : Int32)), (.ref b21)]))
      obtain ⟨cl58, Ar58, -, S58, N58', H58, -⟩ := id ((V31.ext E53).keep Kq56 (ninS ne_b21_b53 nin0))
      have hin58 : ¬ ((0 : Int32) < 0 ∨ cl58.slots.size ≤ ((0 : Int32)).toNatClampNeg) := inb_of S58 ⟨by decide, by decide⟩
      have hat58 := H58.at hin58 (v := (.ref b1)) rfl
      refine Runs.by (fun t hr => X56.aaload hx (j := (0 : Int32)) (v := (.ref b1)) (by exact Ar58.1) (State.isArrayOf_alike hZ.alike Ar58.2.1) rfl Ar58.2.2 hin58 hat58 (g := (mkF m 111 #[.val (.int p0), .val (.int p1), .val (.ref b1), .val (.ref b5), .val (.ref b9), .val (.ref b13), .val (.ref b17), .val (.ref b21), .val (.int (0 : Int32)), .val (.int (1 : Int32)), .val (.ref b53)] [(.int (0 : Int32)), (.ref b21)])) rfl rfl (hb hby at_111) t hr) ?_
      show Runs p e below _ (T56.setTop (mkF m 112 #[.val (.int p0), .val (.int p1), .val (.ref b1), .val (.ref b5), .val (.ref b9), .val (.ref b13), .val (.ref b17), .val (.ref b21), .val (.int (0 : Int32)), .val (.int (1 : Int32)), .val (.ref b53)] [(.ref b1)]))
      refine Runs.by (fun _ hr => XS.aload X56.here hx rfl (hb hby at_112) rfl rfl hr) ?_
      show Runs p e below _ (T56.setTop (mkF m 114 #[.val (.int p0), .val (.int p1), .val (.ref b1), .val (.ref b5), .val (.ref b9), .val (.ref b13), .val (.ref b17), .val (.ref b21), .val (.int (0 : Int32)), .val (.int (1 : Int32)), .val (.ref b53)] [(.ref b53), (.ref b1)]))
      obtain ⟨cq59, kq59, q59a, q59b, q59c⟩ := isOf hZ rfl ((((((((((((((((f3_0.ext E5).keep Kq7).ext E9).keep Kq11).ext E13).keep Kq15).ext E17).keep Kq19).ext E21).wr W23).wr W25).wr W27).wr W29).wr W31).ext E53).keep Kq56)
      obtain ⟨_, _, ⟨T59, L59, k59, n59⟩, -, X59, ⟨Lc59, hQ59, l59, y59, z59⟩, st59⟩ := X56.virtualBack hx (y := (⟨"com/example/prorata/prorata/request/Form", "has", "(Lcom/example/prorata/prorata/request/Form$Field;)Z"⟩ : MethodName)) (z := (⟨"com/example/prorata/prorata/request/Form", "has", "(Lcom/example/prorata/prorata/request/Form$Field;)Z"⟩ : MethodName)) hown (mvT hZ (hw _ (List.mem_of_getElem? (i := 54) rfl))) (mvT hZ (hw _ (List.mem_of_getElem? (i := 55) rfl))) (notFace_of_selects (args := #[]) (mvT hZ (hw _ (List.mem_of_getElem? (i := 57) rfl)))) (mvT hZ (hw _ (List.mem_of_getElem? (i := 57) rfl))) (mvT hZ (hw _ (List.mem_of_getElem? (i := 56) rfl))) (by decide) (backOf (W := 0) (rm8_1 l Z a0 hw [] b1 b53 b5 T56.heap n0 (Nat.le_trans Z0 K57.1) f56_0 f56_1 ((((((((((((((((f3_0.ext E5).keep Kq7).ext E9).keep Kq11).ext E13).keep Kq15).ext E17).keep Kq19).ext E21).wr W23).wr W25).wr W27).wr W29).wr W31).ext E53).keep Kq56) ((((((((((((((((f3_1.ext E5).keep Kq7 (ninS ne_b1_b5 nin0)).ext E9).keep Kq11 (ninS ne_b1_b9 nin0)).ext E13).keep Kq15 (ninS ne_b1_b13 nin0)).ext E17).keep Kq19 (ninS ne_b1_b17 nin0)).ext E21).other W23 (Or.inl ne_b1_b21)).other W25 (Or.inl ne_b1_b21)).other W27 (Or.inl ne_b1_b21)).other W29 (Or.inl ne_b1_b21)).other W31 (Or.inl ne_b1_b21)).ext E53).keep Kq56 (ninS ne_b1_b53 nin0))) hZ (hw _ (List.mem_of_getElem? (i := 58) rfl)) (hw _ (List.mem_of_getElem? (i := 2) rfl)) (by decide) (by decide)) q59a q59c (g := (mkF m 114 #[.val (.int p0), .val (.int p1), .val (.ref b1), .val (.ref b5), .val (.ref b9), .val (.ref b13), .val (.ref b17), .val (.ref b21), .val (.int (0 : Int32)), .val (.int (1 : Int32)), .val (.ref b53)] [(.ref b53), (.ref b1)])) rfl (by rw [hml]; rfl) (Steps.refl _) (argsL := [(.ref b53)]) (rest := []) (lenOf pd_3 rfl) rfl (by show 2 * 0 + _ ≤ _; exact Nat.le_of_eq rfl) (hb hby at_114) (fun _ _ => ⟨rfl, rfl, (by decide : 12 + 0 ≤ _), (by decide : 58 + 0 ≤ _)⟩)
      dsimp only [Pt.U, Pt.locs, Pt.cells, Pt.slots] at X59 l59 y59 z59 st59 hQ59
      subst l59 y59 z59
      obtain ⟨rfl, Nq59, eq59⟩ := hQ59
      have N59 := Fr.app N56 Nq59
      refine Runs.by (fun _ hr => st59.trans hr) ?_
      rw [show own_has [b1] b5 = (0 : Int32) from by simp [own_has, ((Ne.symm ne_b1_b5) : ¬ b5 = b1)]]
      show Runs p e below _ (T59.setTop (mkF m 117 #[.val (.int p0), .val (.int p1), .val (.ref b1), .val (.ref b5), .val (.ref b9), .val (.ref b13), .val (.ref b17), .val (.ref b21), .val (.int (0 : Int32)), .val (.int (1 : Int32)), .val (.ref b53)] [(.int (0 : Int32))]))
      refine Runs.by (fun _ hr => XS.iload X59.here hx rfl (hb hby at_117) rfl  hr) ?_
      show Runs p e below _ (T59.setTop (mkF m 119 #[.val (.int p0), .val (.int p1), .val (.ref b1), .val (.ref b5), .val (.ref b9), .val (.ref b13), .val (.ref b17), .val (.ref b21), .val (.int (0 : Int32)), .val (.int (1 : Int32)), .val (.ref b53)] [(.int (0 : Int32)), (.int (0 : Int32))]))
      refine Runs.by (fun _ hr => XS.iload X59.here hx rfl (hb hby at_119) rfl  hr) ?_
      show Runs p e below _ (T59.setTop (mkF m 121 #[.val (.int p0), .val (.int p1), .val (.ref b1), .val (.ref b5), .val (.ref b9), .val (.ref b13), .val (.ref b17), .val (.ref b21), .val (.int (0 : Int32)), .val (.int (1 : Int32)), .val (.ref b53)] [(.int (1 : Int32)), (.int (0 : Int32)), (.int (0 : Int32))]))
      obtain ⟨_, _, ⟨T60, L60, k60, n60⟩, -, X60, ⟨Lc60, hQ60, l60, y60, z60⟩, st60⟩ := Jvm.LawKit.callS X59 hx (y := (⟨"com/example/prorata/prorata/request/FormHasPinLaw", "reaches", "(II)Z"⟩ : MethodName)) hown (mvT hZ (hw _ (List.mem_of_getElem? (i := 64) rfl))) (mvT hZ (hw _ (List.mem_of_getElem? (i := 65) rfl))) (mvT hZ (hw _ (List.mem_of_getElem? (i := 66) rfl))) (mvT hZ (hw _ (List.mem_of_getElem? (i := 67) rfl))) (by decide) (backOf (W := 1) (rm10 l Z a0 hw [] (0 : Int32) (1 : Int32)  T56.heap n0 (Nat.le_trans Z0 K57.1) ) hZ (hw _ (List.mem_of_getElem? (i := 67) rfl)) (hw _ (List.mem_of_getElem? (i := 66) rfl)) (by decide) (by decide)) (g := (mkF m 121 #[.val (.int p0), .val (.int p1), .val (.ref b1), .val (.ref b5), .val (.ref b9), .val (.ref b13), .val (.ref b17), .val (.ref b21), .val (.int (0 : Int32)), .val (.int (1 : Int32)), .val (.ref b53)] [(.int (1 : Int32)), (.int (0 : Int32)), (.int (0 : Int32))])) rfl (by rw [hml]; rfl) (argsL := [(.int (0 : Int32)), (.int (1 : Int32))]) (rest := [(.int (0 : Int32))]) (lenOf pd_5 rfl) rfl (by show 2 * 0 + _ ≤ _; exact Nat.le_of_eq rfl) (hb hby at_121) (fun _ _ => ⟨rfl, eq59, (by decide : 12 + 0 ≤ _), (by decide : 58 + 0 ≤ _)⟩)
      dsimp only [Pt.U, Pt.locs, Pt.cells, Pt.slots] at X60 l60 y60 z60 st60 hQ60
      subst l60 y60 z60
      obtain ⟨rfl, Nq60, eq60⟩ := hQ60
      have N60 := Fr.app N59 Nq60
      refine Runs.by (fun t hr => st60 t hr) ?_
      rw [show own_reach (0 : Int32) (1 : Int32) = (0 : Int32) from by decide]
      show Runs p e below _ (T60.setTop (mkF m 124 #[.val (.int p0), .val (.int p1), .val (.ref b1), .val (.ref b5), .val (.ref b9), .val (.ref b13), .val (.ref b17), .val (.ref b21), .val (.int (0 : Int32)), .val (.int (1 : Int32)), .val (.ref b53)] [(.int (0 : Int32)), (.int (0 : Int32))]))
      have hc124 : (0 : Int32) = (0 : Int32) := (by decide)
      refine Runs.by (fun _ hr => XS.icmpNo X60.here hx rfl (hb hby at_124) rfl (teq hc124).2 hr) ?_
      show Runs p e below _ (T60.setTop (mkF m 127 #[.val (.int p0), .val (.int p1), .val (.ref b1), .val (.ref b5), .val (.ref b9), .val (.ref b13), .val (.ref b17), .val (.ref b21), .val (.int (0 : Int32)), .val (.int (1 : Int32)), .val (.ref b53)] []))
      refine Runs.by (fun _ hr => XS.iconst X60.here hx rfl (hb hby at_127) hr) ?_
      show Runs p e below _ (T60.setTop (mkF m 128 #[.val (.int p0), .val (.int p1), .val (.ref b1), .val (.ref b5), .val (.ref b9), .val (.ref b13), .val (.ref b17), .val (.ref b21), .val (.int (0 : Int32)), .val (.int (1 : Int32)), .val (.ref b53)] [(.int (1 : Int32))]))
      refine Runs.by (fun _ hr => XS.goto X60.here hx rfl (pc0 := 128) (pc' := 132) rfl (hb hby at_128) (by decide) (by decide) hr) ?_
      show Runs p e below _ (T60.setTop (mkF m 132 #[.val (.int p0), .val (.int p1), .val (.ref b1), .val (.ref b5), .val (.ref b9), .val (.ref b13), .val (.ref b17), .val (.ref b21), .val (.int (0 : Int32)), .val (.int (1 : Int32)), .val (.ref b53)] [(.int (1 : Int32))]))
      refine Runs.ret X60 hx hrt hlk (Or.inl ⟨rfl, by simp, _, rfl⟩) (by rfl) (hb hby at_132) (by decide) (by decide) ?_
      rw [eq60]
      exact ⟨rfl, N60⟩
    · skip
      show Runs p e below _ (T56.setTop (mkF m 107 #[.val (.int p0), .val (.int p1), .val (.ref b1), .val (.ref b5), .val (.ref b9), .val (.ref b13), .val (.ref b17), .val (.ref b21), .val (.int (1 : Int32)), .val (.int (1 : Int32)), .val (.ref b53)] []))
      refine Runs.by (fun _ hr => XS.aload X56.here hx rfl (hb hby at_107) rfl rfl hr) ?_
      show Runs p e below _ (T56.setTop (mkF m 109 #[.val (.int p0), .val (.int p1), .val (.ref b1), .val (.ref b5), .val (.ref b9), .val (.ref b13), .val (.ref b17), .val (.ref b21), .val (.int (1 : Int32)), .val (.int (1 : Int32)), .val (.ref b53)] [(.ref b21)]))
      refine Runs.by (fun _ hr => XS.iload X56.here hx rfl (hb hby at_109) rfl  hr) ?_
      show Runs p e below _ (T56.setTop (mkF m 111 #[.val (.int p0), .val (.int p1), .val (.ref b1), .val (.ref b5), .val (.ref b9), .val (.ref b13), .val (.ref b17), .val (.ref b21), .val (.int (1 : Int32)), .val (.int (1 : Int32)), .val (.ref b53)] [(.int (1 : Int32)), (.ref b21)]))
      obtain ⟨cl61, Ar61, -, S61, N61', H61, -⟩ := id ((V31.ext E53).keep Kq56 (ninS ne_b21_b53 nin0))
      have hin61 : ¬ ((1 : Int32) < 0 ∨ cl61.slots.size ≤ ((1 : Int32)).toNatClampNeg) := inb_of S61 ⟨by decide, by decide⟩
      have hat61 := H61.at hin61 (v := (.ref b5)) rfl
      refine Runs.by (fun t hr => X56.aaload hx (j := (1 : Int32)) (v := (.ref b5)) (by exact Ar61.1) (State.isArrayOf_alike hZ.alike Ar61.2.1) rfl Ar61.2.2 hin61 hat61 (g := (mkF m 111 #[.val (.int p0), .val (.int p1), .val (.ref b1), .val (.ref b5), .val (.ref b9), .val (.ref b13), .val (.ref b17), .val (.ref b21), .val (.int (1 : Int32)), .val (.int (1 : Int32)), .val (.ref b53)] [(.int (1 : Int32)), (.ref b21)])) rfl rfl (hb hby at_111) t hr) ?_
      show Runs p e below _ (T56.setTop (mkF m 112 #[.val (.int p0), .val (.int p1), .val (.ref b1), .val (.ref b5), .val (.ref b9), .val (.ref b13), .val (.ref b17), .val (.ref b21), .val (.int (1 : Int32)), .val (.int (1 : Int32)), .val (.ref b53)] [(.ref b5)]))
      refine Runs.by (fun _ hr => XS.aload X56.here hx rfl (hb hby at_112) rfl rfl hr) ?_
      show Runs p e below _ (T56.setTop (mkF m 114 #[.val (.int p0), .val (.int p1), .val (.ref b1), .val (.ref b5), .val (.ref b9), .val (.ref b13), .val (.ref b17), .val (.ref b21), .val (.int (1 : Int32)), .val (.int (1 : Int32)), .val (.ref b53)] [(.ref b53), (.ref b5)]))
      obtain ⟨cq62, kq62, q62a, q62b, q62c⟩ := isOf hZ rfl ((((((((((((((f7_0.ext E9).keep Kq11).ext E13).keep Kq15).ext E17).keep Kq19).ext E21).wr W23).wr W25).wr W27).wr W29).wr W31).ext E53).keep Kq56)
      obtain ⟨_, _, ⟨T62, L62, k62, n62⟩, -, X62, ⟨Lc62, hQ62, l62, y62, z62⟩, st62⟩ := X56.virtualBack hx (y := (⟨"com/example/prorata/prorata/request/Form", "has", "(Lcom/example/prorata/prorata/request/Form$Field;)Z"⟩ : MethodName)) (z := (⟨"com/example/prorata/prorata/request/Form", "has", "(Lcom/example/prorata/prorata/request/Form$Field;)Z"⟩ : MethodName)) hown (mvT hZ (hw _ (List.mem_of_getElem? (i := 54) rfl))) (mvT hZ (hw _ (List.mem_of_getElem? (i := 55) rfl))) (notFace_of_selects (args := #[]) (mvT hZ (hw _ (List.mem_of_getElem? (i := 57) rfl)))) (mvT hZ (hw _ (List.mem_of_getElem? (i := 57) rfl))) (mvT hZ (hw _ (List.mem_of_getElem? (i := 56) rfl))) (by decide) (backOf (W := 0) (rm8_2 l Z a0 hw [] b5 b53 b5 b1 T56.heap n0 (Nat.le_trans Z0 K57.1) f56_0 f56_1 ((((((((((((((f7_0.ext E9).keep Kq11).ext E13).keep Kq15).ext E17).keep Kq19).ext E21).wr W23).wr W25).wr W27).wr W29).wr W31).ext E53).keep Kq56) ((((((((((((((f7_1.ext E9).keep Kq11 (ninS ne_b5_b9 nin0)).ext E13).keep Kq15 (ninS ne_b5_b13 nin0)).ext E17).keep Kq19 (ninS ne_b5_b17 nin0)).ext E21).other W23 (Or.inl ne_b5_b21)).other W25 (Or.inl ne_b5_b21)).other W27 (Or.inl ne_b5_b21)).other W29 (Or.inl ne_b5_b21)).other W31 (Or.inl ne_b5_b21)).ext E53).keep Kq56 (ninS ne_b5_b53 nin0)) ((((((((((((((((f3_0.ext E5).keep Kq7).ext E9).keep Kq11).ext E13).keep Kq15).ext E17).keep Kq19).ext E21).wr W23).wr W25).wr W27).wr W29).wr W31).ext E53).keep Kq56) ((((((((((((((((f3_1.ext E5).keep Kq7 (ninS ne_b1_b5 nin0)).ext E9).keep Kq11 (ninS ne_b1_b9 nin0)).ext E13).keep Kq15 (ninS ne_b1_b13 nin0)).ext E17).keep Kq19 (ninS ne_b1_b17 nin0)).ext E21).other W23 (Or.inl ne_b1_b21)).other W25 (Or.inl ne_b1_b21)).other W27 (Or.inl ne_b1_b21)).other W29 (Or.inl ne_b1_b21)).other W31 (Or.inl ne_b1_b21)).ext E53).keep Kq56 (ninS ne_b1_b53 nin0))) hZ (hw _ (List.mem_of_getElem? (i := 58) rfl)) (hw _ (List.mem_of_getElem? (i := 2) rfl)) (by decide) (by decide)) q62a q62c (g := (mkF m 114 #[.val (.int p0), .val (.int p1), .val (.ref b1), .val (.ref b5), .val (.ref b9), .val (.ref b13), .val (.ref b17), .val (.ref b21), .val (.int (1 : Int32)), .val (.int (1 : Int32)), .val (.ref b53)] [(.ref b53), (.ref b5)])) rfl (by rw [hml]; rfl) (Steps.refl _) (argsL := [(.ref b53)]) (rest := []) (lenOf pd_3 rfl) rfl (by show 2 * 0 + _ ≤ _; exact Nat.le_of_eq rfl) (hb hby at_114) (fun _ _ => ⟨rfl, rfl, (by decide : 12 + 0 ≤ _), (by decide : 58 + 0 ≤ _)⟩)
      dsimp only [Pt.U, Pt.locs, Pt.cells, Pt.slots] at X62 l62 y62 z62 st62 hQ62
      subst l62 y62 z62
      obtain ⟨rfl, Nq62, eq62⟩ := hQ62
      have N62 := Fr.app N56 Nq62
      refine Runs.by (fun _ hr => st62.trans hr) ?_
      rw [show own_has [b5, b1] b5 = (1 : Int32) from by simp [own_has, ((Ne.symm ne_b1_b5) : ¬ b5 = b1)]]
      show Runs p e below _ (T62.setTop (mkF m 117 #[.val (.int p0), .val (.int p1), .val (.ref b1), .val (.ref b5), .val (.ref b9), .val (.ref b13), .val (.ref b17), .val (.ref b21), .val (.int (1 : Int32)), .val (.int (1 : Int32)), .val (.ref b53)] [(.int (1 : Int32))]))
      refine Runs.by (fun _ hr => XS.iload X62.here hx rfl (hb hby at_117) rfl  hr) ?_
      show Runs p e below _ (T62.setTop (mkF m 119 #[.val (.int p0), .val (.int p1), .val (.ref b1), .val (.ref b5), .val (.ref b9), .val (.ref b13), .val (.ref b17), .val (.ref b21), .val (.int (1 : Int32)), .val (.int (1 : Int32)), .val (.ref b53)] [(.int (1 : Int32)), (.int (1 : Int32))]))
      refine Runs.by (fun _ hr => XS.iload X62.here hx rfl (hb hby at_119) rfl  hr) ?_
      show Runs p e below _ (T62.setTop (mkF m 121 #[.val (.int p0), .val (.int p1), .val (.ref b1), .val (.ref b5), .val (.ref b9), .val (.ref b13), .val (.ref b17), .val (.ref b21), .val (.int (1 : Int32)), .val (.int (1 : Int32)), .val (.ref b53)] [(.int (1 : Int32)), (.int (1 : Int32)), (.int (1 : Int32))]))
      obtain ⟨_, _, ⟨T63, L63, k63, n63⟩, -, X63, ⟨Lc63, hQ63, l63, y63, z63⟩, st63⟩ := Jvm.LawKit.callS X62 hx (y := (⟨"com/example/prorata/prorata/request/FormHasPinLaw", "reaches", "(II)Z"⟩ : MethodName)) hown (mvT hZ (hw _ (List.mem_of_getElem? (i := 64) rfl))) (mvT hZ (hw _ (List.mem_of_getElem? (i := 65) rfl))) (mvT hZ (hw _ (List.mem_of_getElem? (i := 66) rfl))) (mvT hZ (hw _ (List.mem_of_getElem? (i := 67) rfl))) (by decide) (backOf (W := 1) (rm10 l Z a0 hw [] (1 : Int32) (1 : Int32)  T56.heap n0 (Nat.le_trans Z0 K57.1) ) hZ (hw _ (List.mem_of_getElem? (i := 67) rfl)) (hw _ (List.mem_of_getElem? (i := 66) rfl)) (by decide) (by decide)) (g := (mkF m 121 #[.val (.int p0), .val (.int p1), .val (.ref b1), .val (.ref b5), .val (.ref b9), .val (.ref b13), .val (.ref b17), .val (.ref b21), .val (.int (1 : Int32)), .val (.int (1 : Int32)), .val (.ref b53)] [(.int (1 : Int32)), (.int (1 : Int32)), (.int (1 : Int32))])) rfl (by rw [hml]; rfl) (argsL := [(.int (1 : Int32)), (.int (1 : Int32))]) (rest := [(.int (1 : Int32))]) (lenOf pd_5 rfl) rfl (by show 2 * 0 + _ ≤ _; exact Nat.le_of_eq rfl) (hb hby at_121) (fun _ _ => ⟨rfl, eq62, (by decide : 12 + 0 ≤ _), (by decide : 58 + 0 ≤ _)⟩)
      dsimp only [Pt.U, Pt.locs, Pt.cells, Pt.slots] at X63 l63 y63 z63 st63 hQ63
      subst l63 y63 z63
      obtain ⟨rfl, Nq63, eq63⟩ := hQ63
      have N63 := Fr.app N62 Nq63
      refine Runs.by (fun t hr => st63 t hr) ?_
      rw [show own_reach (1 : Int32) (1 : Int32) = (1 : Int32) from by decide]
      show Runs p e below _ (T63.setTop (mkF m 124 #[.val (.int p0), .val (.int p1), .val (.ref b1), .val (.ref b5), .val (.ref b9), .val (.ref b13), .val (.ref b17), .val (.ref b21), .val (.int (1 : Int32)), .val (.int (1 : Int32)), .val (.ref b53)] [(.int (1 : Int32)), (.int (1 : Int32))]))
      have hc124 : (1 : Int32) = (1 : Int32) := (by decide)
      refine Runs.by (fun _ hr => XS.icmpNo X63.here hx rfl (hb hby at_124) rfl (teq hc124).2 hr) ?_
      show Runs p e below _ (T63.setTop (mkF m 127 #[.val (.int p0), .val (.int p1), .val (.ref b1), .val (.ref b5), .val (.ref b9), .val (.ref b13), .val (.ref b17), .val (.ref b21), .val (.int (1 : Int32)), .val (.int (1 : Int32)), .val (.ref b53)] []))
      refine Runs.by (fun _ hr => XS.iconst X63.here hx rfl (hb hby at_127) hr) ?_
      show Runs p e below _ (T63.setTop (mkF m 128 #[.val (.int p0), .val (.int p1), .val (.ref b1), .val (.ref b5), .val (.ref b9), .val (.ref b13), .val (.ref b17), .val (.ref b21), .val (.int (1 : Int32)), .val (.int (1 : Int32)), .val (.ref b53)] [(.int (1 : Int32))]))
      refine Runs.by (fun _ hr => XS.goto X63.here hx rfl (pc0 := 128) (pc' := 132) rfl (hb hby at_128) (by decide) (by decide) hr) ?_
      show Runs p e below _ (T63.setTop (mkF m 132 #[.val (.int p0), .val (.int p1), .val (.ref b1), .val (.ref b5), .val (.ref b9), .val (.ref b13), .val (.ref b17), .val (.ref b21), .val (.int (1 : Int32)), .val (.int (1 : Int32)), .val (.ref b53)] [(.int (1 : Int32))]))
      refine Runs.ret X63 hx hrt hlk (Or.inl ⟨rfl, by simp, _, rfl⟩) (by rfl) (hb hby at_132) (by decide) (by decide) ?_
      rw [eq63]
      exact ⟨rfl, N63⟩
    · skip
      show Runs p e below _ (T56.setTop (mkF m 107 #[.val (.int p0), .val (.int p1), .val (.ref b1), .val (.ref b5), .val (.ref b9), .val (.ref b13), .val (.ref b17), .val (.ref b21), .val (.int (2 : Int32)), .val (.int (1 : Int32)), .val (.ref b53)] []))
      refine Runs.by (fun _ hr => XS.aload X56.here hx rfl (hb hby at_107) rfl rfl hr) ?_
      show Runs p e below _ (T56.setTop (mkF m 109 #[.val (.int p0), .val (.int p1), .val (.ref b1), .val (.ref b5), .val (.ref b9), .val (.ref b13), .val (.ref b17), .val (.ref b21), .val (.int (2 : Int32)), .val (.int (1 : Int32)), .val (.ref b53)] [(.ref b21)]))
      refine Runs.by (fun _ hr => XS.iload X56.here hx rfl (hb hby at_109) rfl  hr) ?_
      show Runs p e below _ (T56.setTop (mkF m 111 #[.val (.int p0), .val (.int p1), .val (.ref b1), .val (.ref b5), .val (.ref b9), .val (.ref b13), .val (.ref b17), .val (.ref b21), .val (.int (2 : Int32)), .val (.int (1 : Int32)), .val (.ref b53)] [(.int (2 : Int32)), (.ref b21)]))
      obtain ⟨cl64, Ar64, -, S64, N64', H64, -⟩ := id ((V31.ext E53).keep Kq56 (ninS ne_b21_b53 nin0))
      have hin64 : ¬ ((2 : Int32) < 0 ∨ cl64.slots.size ≤ ((2 : Int32)).toNatClampNeg) := inb_of S64 ⟨by decide, by decide⟩
      have hat64 := H64.at hin64 (v := (.ref b9)) rfl
      refine Runs.by (fun t hr => X56.aaload hx (j := (2 : Int32)) (v := (.ref b9)) (by exact Ar64.1) (State.isArrayOf_alike hZ.alike Ar64.2.1) rfl Ar64.2.2 hin64 hat64 (g := (mkF m 111 #[.val (.int p0), .val (.int p1), .val (.ref b1), .val (.ref b5), .val (.ref b9), .val (.ref b13), .val (.ref b17), .val (.ref b21), .val (.int (2 : Int32)), .val (.int (1 : Int32)), .val (.ref b53)] [(.int (2 : Int32)), (.ref b21)])) rfl rfl (hb hby at_111) t hr) ?_
      show Runs p e below _ (T56.setTop (mkF m 112 #[.val (.int p0), .val (.int p1), .val (.ref b1), .val (.ref b5), .val (.ref b9), .val (.ref b13), .val (.ref b17), .val (.ref b21), .val (.int (2 : Int32)), .val (.int (1 : Int32)), .val (.ref b53)] [(.ref b9)]))
      refine Runs.by (fun _ hr => XS.aload X56.here hx rfl (hb hby at_112) rfl rfl hr) ?_
      show Runs p e below _ (T56.setTop (mkF m 114 #[.val (.int p0), .val (.int p1), .val (.ref b1), .val (.ref b5), .val (.ref b9), .val (.ref b13), .val (.ref b17), .val (.ref b21), .val (.int (2 : Int32)), .val (.int (1 : Int32)), .val (.ref b53)] [(.ref b53), (.ref b9)]))
      obtain ⟨cq65, kq65, q65a, q65b, q65c⟩ := isOf hZ rfl ((((((((((((f11_0.ext E13).keep Kq15).ext E17).keep Kq19).ext E21).wr W23).wr W25).wr W27).wr W29).wr W31).ext E53).keep Kq56)
      obtain ⟨_, _, ⟨T65, L65, k65, n65⟩, -, X65, ⟨Lc65, hQ65, l65, y65, z65⟩, st65⟩ := X56.virtualBack hx (y := (⟨"com/example/prorata/prorata/request/Form", "has", "(Lcom/example/prorata/prorata/request/Form$Field;)Z"⟩ : MethodName)) (z := (⟨"com/example/prorata/prorata/request/Form", "has", "(Lcom/example/prorata/prorata/request/Form$Field;)Z"⟩ : MethodName)) hown (mvT hZ (hw _ (List.mem_of_getElem? (i := 54) rfl))) (mvT hZ (hw _ (List.mem_of_getElem? (i := 55) rfl))) (notFace_of_selects (args := #[]) (mvT hZ (hw _ (List.mem_of_getElem? (i := 57) rfl)))) (mvT hZ (hw _ (List.mem_of_getElem? (i := 57) rfl))) (mvT hZ (hw _ (List.mem_of_getElem? (i := 56) rfl))) (by decide) (backOf (W := 0) (rm8_3 l Z a0 hw [] b9 b53 b5 b5 b1 T56.heap n0 (Nat.le_trans Z0 K57.1) f56_0 f56_1 ((((((((((((f11_0.ext E13).keep Kq15).ext E17).keep Kq19).ext E21).wr W23).wr W25).wr W27).wr W29).wr W31).ext E53).keep Kq56) ((((((((((((f11_1.ext E13).keep Kq15 (ninS ne_b9_b13 nin0)).ext E17).keep Kq19 (ninS ne_b9_b17 nin0)).ext E21).other W23 (Or.inl ne_b9_b21)).other W25 (Or.inl ne_b9_b21)).other W27 (Or.inl ne_b9_b21)).other W29 (Or.inl ne_b9_b21)).other W31 (Or.inl ne_b9_b21)).ext E53).keep Kq56 (ninS ne_b9_b53 nin0)) ((((((((((((((f7_0.ext E9).keep Kq11).ext E13).keep Kq15).ext E17).keep Kq19).ext E21).wr W23).wr W25).wr W27).wr W29).wr W31).ext E53).keep Kq56) ((((((((((((((f7_1.ext E9).keep Kq11 (ninS ne_b5_b9 nin0)).ext E13).keep Kq15 (ninS ne_b5_b13 nin0)).ext E17).keep Kq19 (ninS ne_b5_b17 nin0)).ext E21).other W23 (Or.inl ne_b5_b21)).other W25 (Or.inl ne_b5_b21)).other W27 (Or.inl ne_b5_b21)).other W29 (Or.inl ne_b5_b21)).other W31 (Or.inl ne_b5_b21)).ext E53).keep Kq56 (ninS ne_b5_b53 nin0)) ((((((((((((((((f3_0.ext E5).keep Kq7).ext E9).keep Kq11).ext E13).keep Kq15).ext E17).keep Kq19).ext E21).wr W23).wr W25).wr W27).wr W29).wr W31).ext E53).keep Kq56) ((((((((((((((((f3_1.ext E5).keep Kq7 (ninS ne_b1_b5 nin0)).ext E9).keep Kq11 (ninS ne_b1_b9 nin0)).ext E13).keep Kq15 (ninS ne_b1_b13 nin0)).ext E17).keep Kq19 (ninS ne_b1_b17 nin0)).ext E21).other W23 (Or.inl ne_b1_b21)).other W25 (Or.inl ne_b1_b21)).other W27 (Or.inl ne_b1_b21)).other W29 (Or.inl ne_b1_b21)).other W31 (Or.inl ne_b1_b21)).ext E53).keep Kq56 (ninS ne_b1_b53 nin0))) hZ (hw _ (List.mem_of_getElem? (i := 58) rfl)) (hw _ (List.mem_of_getElem? (i := 2) rfl)) (by decide) (by decide)) q65a q65c (g := (mkF m 114 #[.val (.int p0), .val (.int p1), .val (.ref b1), .val (.ref b5), .val (.ref b9), .val (.ref b13), .val (.ref b17), .val (.ref b21), .val (.int (2 : Int32)), .val (.int (1 : Int32)), .val (.ref b53)] [(.ref b53), (.ref b9)])) rfl (by rw [hml]; rfl) (Steps.refl _) (argsL := [(.ref b53)]) (rest := []) (lenOf pd_3 rfl) rfl (by show 2 * 0 + _ ≤ _; exact Nat.le_of_eq rfl) (hb hby at_114) (fun _ _ => ⟨rfl, rfl, (by decide : 12 + 0 ≤ _), (by decide : 58 + 0 ≤ _)⟩)
      dsimp only [Pt.U, Pt.locs, Pt.cells, Pt.slots] at X65 l65 y65 z65 st65 hQ65
      subst l65 y65 z65
      obtain ⟨rfl, Nq65, eq65⟩ := hQ65
      have N65 := Fr.app N56 Nq65
      refine Runs.by (fun _ hr => st65.trans hr) ?_
      rw [show own_has [b9, b5, b1] b5 = (1 : Int32) from by simp [own_has, (ne_b5_b9 : ¬ b5 = b9), ((Ne.symm ne_b1_b5) : ¬ b5 = b1)]]
      show Runs p e below _ (T65.setTop (mkF m 117 #[.val (.int p0), .val (.int p1), .val (.ref b1), .val (.ref b5), .val (.ref b9), .val (.ref b13), .val (.ref b17), .val (.ref b21), .val (.int (2 : Int32)), .val (.int (1 : Int32)), .val (.ref b53)] [(.int (1 : Int32))]))
      refine Runs.by (fun _ hr => XS.iload X65.here hx rfl (hb hby at_117) rfl  hr) ?_
      show Runs p e below _ (T65.setTop (mkF m 119 #[.val (.int p0), .val (.int p1), .val (.ref b1), .val (.ref b5), .val (.ref b9), .val (.ref b13), .val (.ref b17), .val (.ref b21), .val (.int (2 : Int32)), .val (.int (1 : Int32)), .val (.ref b53)] [(.int (2 : Int32)), (.int (1 : Int32))]))
      refine Runs.by (fun _ hr => XS.iload X65.here hx rfl (hb hby at_119) rfl  hr) ?_
      show Runs p e below _ (T65.setTop (mkF m 121 #[.val (.int p0), .val (.int p1), .val (.ref b1), .val (.ref b5), .val (.ref b9), .val (.ref b13), .val (.ref b17), .val (.ref b21), .val (.int (2 : Int32)), .val (.int (1 : Int32)), .val (.ref b53)] [(.int (1 : Int32)), (.int (2 : Int32)), (.int (1 : Int32))]))
      obtain ⟨_, _, ⟨T66, L66, k66, n66⟩, -, X66, ⟨Lc66, hQ66, l66, y66, z66⟩, st66⟩ := Jvm.LawKit.callS X65 hx (y := (⟨"com/example/prorata/prorata/request/FormHasPinLaw", "reaches", "(II)Z"⟩ : MethodName)) hown (mvT hZ (hw _ (List.mem_of_getElem? (i := 64) rfl))) (mvT hZ (hw _ (List.mem_of_getElem? (i := 65) rfl))) (mvT hZ (hw _ (List.mem_of_getElem? (i := 66) rfl))) (mvT hZ (hw _ (List.mem_of_getElem? (i := 67) rfl))) (by decide) (backOf (W := 1) (rm10 l Z a0 hw [] (2 : Int32) (1 : Int32)  T56.heap n0 (Nat.le_trans Z0 K57.1) ) hZ (hw _ (List.mem_of_getElem? (i := 67) rfl)) (hw _ (List.mem_of_getElem? (i := 66) rfl)) (by decide) (by decide)) (g := (mkF m 121 #[.val (.int p0), .val (.int p1), .val (.ref b1), .val (.ref b5), .val (.ref b9), .val (.ref b13), .val (.ref b17), .val (.ref b21), .val (.int (2 : Int32)), .val (.int (1 : Int32)), .val (.ref b53)] [(.int (1 : Int32)), (.int (2 : Int32)), (.int (1 : Int32))])) rfl (by rw [hml]; rfl) (argsL := [(.int (2 : Int32)), (.int (1 : Int32))]) (rest := [(.int (1 : Int32))]) (lenOf pd_5 rfl) rfl (by show 2 * 0 + _ ≤ _; exact Nat.le_of_eq rfl) (hb hby at_121) (fun _ _ => ⟨rfl, eq65, (by decide : 12 + 0 ≤ _), (by decide : 58 + 0 ≤ _)⟩)
      dsimp only [Pt.U, Pt.locs, Pt.cells, Pt.slots] at X66 l66 y66 z66 st66 hQ66
      subst l66 y66 z66
      obtain ⟨rfl, Nq66, eq66⟩ := hQ66
      have N66 := Fr.app N65 Nq66
      refine Runs.by (fun t hr => st66 t hr) ?_
      rw [show own_reach (2 : Int32) (1 : Int32) = (1 : Int32) from by decide]
      show Runs p e below _ (T66.setTop (mkF m 124 #[.val (.int p0), .val (.int p1), .val (.ref b1), .val (.ref b5), .val (.ref b9), .val (.ref b13), .val (.ref b17), .val (.ref b21), .val (.int (2 : Int32)), .val (.int (1 : Int32)), .val (.ref b53)] [(.int (1 : Int32)), (.int (1 : Int32))]))
      have hc124 : (1 : Int32) = (1 : Int32) := (by decide)
      refine Runs.by (fun _ hr => XS.icmpNo X66.here hx rfl (hb hby at_124) rfl (teq hc124).2 hr) ?_
      show Runs p e below _ (T66.setTop (mkF m 127 #[.val (.int p0), .val (.int p1), .val (.ref b1), .val (.ref b5), .val (.ref b9), .val (.ref b13), .val (.ref b17), .val (.ref b21), .val (.int (2 : Int32)), .val (.int (1 : Int32)), .val (.ref b53)] []))
      refine Runs.by (fun _ hr => XS.iconst X66.here hx rfl (hb hby at_127) hr) ?_
      show Runs p e below _ (T66.setTop (mkF m 128 #[.val (.int p0), .val (.int p1), .val (.ref b1), .val (.ref b5), .val (.ref b9), .val (.ref b13), .val (.ref b17), .val (.ref b21), .val (.int (2 : Int32)), .val (.int (1 : Int32)), .val (.ref b53)] [(.int (1 : Int32))]))
      refine Runs.by (fun _ hr => XS.goto X66.here hx rfl (pc0 := 128) (pc' := 132) rfl (hb hby at_128) (by decide) (by decide) hr) ?_
      show Runs p e below _ (T66.setTop (mkF m 132 #[.val (.int p0), .val (.int p1), .val (.ref b1), .val (.ref b5), .val (.ref b9), .val (.ref b13), .val (.ref b17), .val (.ref b21), .val (.int (2 : Int32)), .val (.int (1 : Int32)), .val (.ref b53)] [(.int (1 : Int32))]))
      refine Runs.ret X66 hx hrt hlk (Or.inl ⟨rfl, by simp, _, rfl⟩) (by rfl) (hb hby at_132) (by decide) (by decide) ?_
      rw [eq66]
      exact ⟨rfl, N66⟩
    · skip
      show Runs p e below _ (T56.setTop (mkF m 107 #[.val (.int p0), .val (.int p1), .val (.ref b1), .val (.ref b5), .val (.ref b9), .val (.ref b13), .val (.ref b17), .val (.ref b21), .val (.int (3 : Int32)), .val (.int (1 : Int32)), .val (.ref b53)] []))
      refine Runs.by (fun _ hr => XS.aload X56.here hx rfl (hb hby at_107) rfl rfl hr) ?_
      show Runs p e below _ (T56.setTop (mkF m 109 #[.val (.int p0), .val (.int p1), .val (.ref b1), .val (.ref b5), .val (.ref b9), .val (.ref b13), .val (.ref b17), .val (.ref b21), .val (.int (3 : Int32)), .val (.int (1 : Int32)), .val (.ref b53)] [(.ref b21)]))
      refine Runs.by (fun _ hr => XS.iload X56.here hx rfl (hb hby at_109) rfl  hr) ?_
      show Runs p e below _ (T56.setTop (mkF m 111 #[.val (.int p0), .val (.int p1), .val (.ref b1), .val (.ref b5), .val (.ref b9), .val (.ref b13), .val (.ref b17), .val (.ref b21), .val (.int (3 : Int32)), .val (.int (1 : Int32)), .val (.ref b53)] [(.int (3 : Int32)), (.ref b21)]))
      obtain ⟨cl67, Ar67, -, S67, N67', H67, -⟩ := id ((V31.ext E53).keep Kq56 (ninS ne_b21_b53 nin0))
      have hin67 : ¬ ((3 : Int32) < 0 ∨ cl67.slots.size ≤ ((3 : Int32)).toNatClampNeg) := inb_of S67 ⟨by decide, by decide⟩
      have hat67 := H67.at hin67 (v := (.ref b13)) rfl
      refine Runs.by (fun t hr => X56.aaload hx (j := (3 : Int32)) (v := (.ref b13)) (by exact Ar67.1) (State.isArrayOf_alike hZ.alike Ar67.2.1) rfl Ar67.2.2 hin67 hat67 (g := (mkF m 111 #[.val (.int p0), .val (.int p1), .val (.ref b1), .val (.ref b5), .val (.ref b9), .val (.ref b13), .val (.ref b17), .val (.ref b21), .val (.int (3 : Int32)), .val (.int (1 : Int32)), .val (.ref b53)] [(.int (3 : Int32)), (.ref b21)])) rfl rfl (hb hby at_111) t hr) ?_
      show Runs p e below _ (T56.setTop (mkF m 112 #[.val (.int p0), .val (.int p1), .val (.ref b1), .val (.ref b5), .val (.ref b9), .val (.ref b13), .val (.ref b17), .val (.ref b21), .val (.int (3 : Int32)), .val (.int (1 : Int32)), .val (.ref b53)] [(.ref b13)]))
      refine Runs.by (fun _ hr => XS.aload X56.here hx rfl (hb hby at_112) rfl rfl hr) ?_
      show Runs p e below _ (T56.setTop (mkF m 114 #[.val (.int p0), .val (.int p1), .val (.ref b1), .val (.ref b5), .val (.ref b9), .val (.ref b13), .val (.ref b17), .val (.ref b21), .val (.int (3 : Int32)), .val (.int (1 : Int32)), .val (.ref b53)] [(.ref b53), (.ref b13)]))
      obtain ⟨cq68, kq68, q68a, q68b, q68c⟩ := isOf hZ rfl ((((((((((f15_0.ext E17).keep Kq19).ext E21).wr W23).wr W25).wr W27).wr W29).wr W31).ext E53).keep Kq56)
      obtain ⟨_, _, ⟨T68, L68, k68, n68⟩, -, X68, ⟨Lc68, hQ68, l68, y68, z68⟩, st68⟩ := X56.virtualBack hx (y := (⟨"com/example/prorata/prorata/request/Form", "has", "(Lcom/example/prorata/prorata/request/Form$Field;)Z"⟩ : MethodName)) (z := (⟨"com/example/prorata/prorata/request/Form", "has", "(Lcom/example/prorata/prorata/request/Form$Field;)Z"⟩ : MethodName)) hown (mvT hZ (hw _ (List.mem_of_getElem? (i := 54) rfl))) (mvT hZ (hw _ (List.mem_of_getElem? (i := 55) rfl))) (notFace_of_selects (args := #[]) (mvT hZ (hw _ (List.mem_of_getElem? (i := 57) rfl)))) (mvT hZ (hw _ (List.mem_of_getElem? (i := 57) rfl))) (mvT hZ (hw _ (List.mem_of_getElem? (i := 56) rfl))) (by decide) (backOf (W := 0) (rm8_2 l Z a0 hw [] b13 b53 b5 b1 T56.heap n0 (Nat.le_trans Z0 K57.1) f56_0 f56_1 ((((((((((f15_0.ext E17).keep Kq19).ext E21).wr W23).wr W25).wr W27).wr W29).wr W31).ext E53).keep Kq56) ((((((((((f15_1.ext E17).keep Kq19 (ninS ne_b13_b17 nin0)).ext E21).other W23 (Or.inl ne_b13_b21)).other W25 (Or.inl ne_b13_b21)).other W27 (Or.inl ne_b13_b21)).other W29 (Or.inl ne_b13_b21)).other W31 (Or.inl ne_b13_b21)).ext E53).keep Kq56 (ninS ne_b13_b53 nin0)) ((((((((((((((((f3_0.ext E5).keep Kq7).ext E9).keep Kq11).ext E13).keep Kq15).ext E17).keep Kq19).ext E21).wr W23).wr W25).wr W27).wr W29).wr W31).ext E53).keep Kq56) ((((((((((((((((f3_1.ext E5).keep Kq7 (ninS ne_b1_b5 nin0)).ext E9).keep Kq11 (ninS ne_b1_b9 nin0)).ext E13).keep Kq15 (ninS ne_b1_b13 nin0)).ext E17).keep Kq19 (ninS ne_b1_b17 nin0)).ext E21).other W23 (Or.inl ne_b1_b21)).other W25 (Or.inl ne_b1_b21)).other W27 (Or.inl ne_b1_b21)).other W29 (Or.inl ne_b1_b21)).other W31 (Or.inl ne_b1_b21)).ext E53).keep Kq56 (ninS ne_b1_b53 nin0))) hZ (hw _ (List.mem_of_getElem? (i := 58) rfl)) (hw _ (List.mem_of_getElem? (i := 2) rfl)) (by decide) (by decide)) q68a q68c (g := (mkF m 114 #[.val (.int p0), .val (.int p1), .val (.ref b1), .val (.ref b5), .val (.ref b9), .val (.ref b13), .val (.ref b17), .val (.ref b21), .val (.int (3 : Int32)), .val (.int (1 : Int32)), .val (.ref b53)] [(.ref b53), (.ref b13)])) rfl (by rw [hml]; rfl) (Steps.refl _) (argsL := [(.ref b53)]) (rest := []) (lenOf pd_3 rfl) rfl (by show 2 * 0 + _ ≤ _; exact Nat.le_of_eq rfl) (hb hby at_114) (fun _ _ => ⟨rfl, rfl, (by decide : 12 + 0 ≤ _), (by decide : 58 + 0 ≤ _)⟩)
      dsimp only [Pt.U, Pt.locs, Pt.cells, Pt.slots] at X68 l68 y68 z68 st68 hQ68
      subst l68 y68 z68
      obtain ⟨rfl, Nq68, eq68⟩ := hQ68
      have N68 := Fr.app N56 Nq68
      refine Runs.by (fun _ hr => st68.trans hr) ?_
      rw [show own_has [b13, b1] b5 = (0 : Int32) from by simp [own_has, (ne_b5_b13 : ¬ b5 = b13), ((Ne.symm ne_b1_b5) : ¬ b5 = b1)]]
      show Runs p e below _ (T68.setTop (mkF m 117 #[.val (.int p0), .val (.int p1), .val (.ref b1), .val (.ref b5), .val (.ref b9), .val (.ref b13), .val (.ref b17), .val (.ref b21), .val (.int (3 : Int32)), .val (.int (1 : Int32)), .val (.ref b53)] [(.int (0 : Int32))]))
      refine Runs.by (fun _ hr => XS.iload X68.here hx rfl (hb hby at_117) rfl  hr) ?_
      show Runs p e below _ (T68.setTop (mkF m 119 #[.val (.int p0), .val (.int p1), .val (.ref b1), .val (.ref b5), .val (.ref b9), .val (.ref b13), .val (.ref b17), .val (.ref b21), .val (.int (3 : Int32)), .val (.int (1 : Int32)), .val (.ref b53)] [(.int (3 : Int32)), (.int (0 : Int32))]))
      refine Runs.by (fun _ hr => XS.iload X68.here hx rfl (hb hby at_119) rfl  hr) ?_
      show Runs p e below _ (T68.setTop (mkF m 121 #[.val (.int p0), .val (.int p1), .val (.ref b1), .val (.ref b5), .val (.ref b9), .val (.ref b13), .val (.ref b17), .val (.ref b21), .val (.int (3 : Int32)), .val (.int (1 : Int32)), .val (.ref b53)] [(.int (1 : Int32)), (.int (3 : Int32)), (.int (0 : Int32))]))
      obtain ⟨_, _, ⟨T69, L69, k69, n69⟩, -, X69, ⟨Lc69, hQ69, l69, y69, z69⟩, st69⟩ := Jvm.LawKit.callS X68 hx (y := (⟨"com/example/prorata/prorata/request/FormHasPinLaw", "reaches", "(II)Z"⟩ : MethodName)) hown (mvT hZ (hw _ (List.mem_of_getElem? (i := 64) rfl))) (mvT hZ (hw _ (List.mem_of_getElem? (i := 65) rfl))) (mvT hZ (hw _ (List.mem_of_getElem? (i := 66) rfl))) (mvT hZ (hw _ (List.mem_of_getElem? (i := 67) rfl))) (by decide) (backOf (W := 1) (rm10 l Z a0 hw [] (3 : Int32) (1 : Int32)  T56.heap n0 (Nat.le_trans Z0 K57.1) ) hZ (hw _ (List.mem_of_getElem? (i := 67) rfl)) (hw _ (List.mem_of_getElem? (i := 66) rfl)) (by decide) (by decide)) (g := (mkF m 121 #[.val (.int p0), .val (.int p1), .val (.ref b1), .val (.ref b5), .val (.ref b9), .val (.ref b13), .val (.ref b17), .val (.ref b21), .val (.int (3 : Int32)), .val (.int (1 : Int32)), .val (.ref b53)] [(.int (1 : Int32)), (.int (3 : Int32)), (.int (0 : Int32))])) rfl (by rw [hml]; rfl) (argsL := [(.int (3 : Int32)), (.int (1 : Int32))]) (rest := [(.int (0 : Int32))]) (lenOf pd_5 rfl) rfl (by show 2 * 0 + _ ≤ _; exact Nat.le_of_eq rfl) (hb hby at_121) (fun _ _ => ⟨rfl, eq68, (by decide : 12 + 0 ≤ _), (by decide : 58 + 0 ≤ _)⟩)
      dsimp only [Pt.U, Pt.locs, Pt.cells, Pt.slots] at X69 l69 y69 z69 st69 hQ69
      subst l69 y69 z69
      obtain ⟨rfl, Nq69, eq69⟩ := hQ69
      have N69 := Fr.app N68 Nq69
      refine Runs.by (fun t hr => st69 t hr) ?_
      rw [show own_reach (3 : Int32) (1 : Int32) = (0 : Int32) from by decide]
      show Runs p e below _ (T69.setTop (mkF m 124 #[.val (.int p0), .val (.int p1), .val (.ref b1), .val (.ref b5), .val (.ref b9), .val (.ref b13), .val (.ref b17), .val (.ref b21), .val (.int (3 : Int32)), .val (.int (1 : Int32)), .val (.ref b53)] [(.int (0 : Int32)), (.int (0 : Int32))]))
      have hc124 : (0 : Int32) = (0 : Int32) := (by decide)
      refine Runs.by (fun _ hr => XS.icmpNo X69.here hx rfl (hb hby at_124) rfl (teq hc124).2 hr) ?_
      show Runs p e below _ (T69.setTop (mkF m 127 #[.val (.int p0), .val (.int p1), .val (.ref b1), .val (.ref b5), .val (.ref b9), .val (.ref b13), .val (.ref b17), .val (.ref b21), .val (.int (3 : Int32)), .val (.int (1 : Int32)), .val (.ref b53)] []))
      refine Runs.by (fun _ hr => XS.iconst X69.here hx rfl (hb hby at_127) hr) ?_
      show Runs p e below _ (T69.setTop (mkF m 128 #[.val (.int p0), .val (.int p1), .val (.ref b1), .val (.ref b5), .val (.ref b9), .val (.ref b13), .val (.ref b17), .val (.ref b21), .val (.int (3 : Int32)), .val (.int (1 : Int32)), .val (.ref b53)] [(.int (1 : Int32))]))
      refine Runs.by (fun _ hr => XS.goto X69.here hx rfl (pc0 := 128) (pc' := 132) rfl (hb hby at_128) (by decide) (by decide) hr) ?_
      show Runs p e below _ (T69.setTop (mkF m 132 #[.val (.int p0), .val (.int p1), .val (.ref b1), .val (.ref b5), .val (.ref b9), .val (.ref b13), .val (.ref b17), .val (.ref b21), .val (.int (3 : Int32)), .val (.int (1 : Int32)), .val (.ref b53)] [(.int (1 : Int32))]))
      refine Runs.ret X69 hx hrt hlk (Or.inl ⟨rfl, by simp, _, rfl⟩) (by rfl) (hb hby at_132) (by decide) (by decide) ?_
      rw [eq69]
      exact ⟨rfl, N69⟩
    · skip
      show Runs p e below _ (T56.setTop (mkF m 107 #[.val (.int p0), .val (.int p1), .val (.ref b1), .val (.ref b5), .val (.ref b9), .val (.ref b13), .val (.ref b17), .val (.ref b21), .val (.int (4 : Int32)), .val (.int (1 : Int32)), .val (.ref b53)] []))
      refine Runs.by (fun _ hr => XS.aload X56.here hx rfl (hb hby at_107) rfl rfl hr) ?_
      show Runs p e below _ (T56.setTop (mkF m 109 #[.val (.int p0), .val (.int p1), .val (.ref b1), .val (.ref b5), .val (.ref b9), .val (.ref b13), .val (.ref b17), .val (.ref b21), .val (.int (4 : Int32)), .val (.int (1 : Int32)), .val (.ref b53)] [(.ref b21)]))
      refine Runs.by (fun _ hr => XS.iload X56.here hx rfl (hb hby at_109) rfl  hr) ?_
      show Runs p e below _ (T56.setTop (mkF m 111 #[.val (.int p0), .val (.int p1), .val (.ref b1), .val (.ref b5), .val (.ref b9), .val (.ref b13), .val (.ref b17), .val (.ref b21), .val (.int (4 : Int32)), .val (.int (1 : Int32)), .val (.ref b53)] [(.int (4 : Int32)), (.ref b21)]))
      obtain ⟨cl70, Ar70, -, S70, N70', H70, -⟩ := id ((V31.ext E53).keep Kq56 (ninS ne_b21_b53 nin0))
      have hin70 : ¬ ((4 : Int32) < 0 ∨ cl70.slots.size ≤ ((4 : Int32)).toNatClampNeg) := inb_of S70 ⟨by decide, by decide⟩
      have hat70 := H70.at hin70 (v := (.ref b17)) rfl
      refine Runs.by (fun t hr => X56.aaload hx (j := (4 : Int32)) (v := (.ref b17)) (by exact Ar70.1) (State.isArrayOf_alike hZ.alike Ar70.2.1) rfl Ar70.2.2 hin70 hat70 (g := (mkF m 111 #[.val (.int p0), .val (.int p1), .val (.ref b1), .val (.ref b5), .val (.ref b9), .val (.ref b13), .val (.ref b17), .val (.ref b21), .val (.int (4 : Int32)), .val (.int (1 : Int32)), .val (.ref b53)] [(.int (4 : Int32)), (.ref b21)])) rfl rfl (hb hby at_111) t hr) ?_
      show Runs p e below _ (T56.setTop (mkF m 112 #[.val (.int p0), .val (.int p1), .val (.ref b1), .val (.ref b5), .val (.ref b9), .val (.ref b13), .val (.ref b17), .val (.ref b21), .val (.int (4 : Int32)), .val (.int (1 : Int32)), .val (.ref b53)] [(.ref b17)]))
      refine Runs.by (fun _ hr => XS.aload X56.here hx rfl (hb hby at_112) rfl rfl hr) ?_
      show Runs p e below _ (T56.setTop (mkF m 114 #[.val (.int p0), .val (.int p1), .val (.ref b1), .val (.ref b5), .val (.ref b9), .val (.ref b13), .val (.ref b17), .val (.ref b21), .val (.int (4 : Int32)), .val (.int (1 : Int32)), .val (.ref b53)] [(.ref b53), (.ref b17)]))
      obtain ⟨cq71, kq71, q71a, q71b, q71c⟩ := isOf hZ rfl ((((((((f19_0.ext E21).wr W23).wr W25).wr W27).wr W29).wr W31).ext E53).keep Kq56)
      obtain ⟨_, _, ⟨T71, L71, k71, n71⟩, -, X71, ⟨Lc71, hQ71, l71, y71, z71⟩, st71⟩ := X56.virtualBack hx (y := (⟨"com/example/prorata/prorata/request/Form", "has", "(Lcom/example/prorata/prorata/request/Form$Field;)Z"⟩ : MethodName)) (z := (⟨"com/example/prorata/prorata/request/Form", "has", "(Lcom/example/prorata/prorata/request/Form$Field;)Z"⟩ : MethodName)) hown (mvT hZ (hw _ (List.mem_of_getElem? (i := 54) rfl))) (mvT hZ (hw _ (List.mem_of_getElem? (i := 55) rfl))) (notFace_of_selects (args := #[]) (mvT hZ (hw _ (List.mem_of_getElem? (i := 57) rfl)))) (mvT hZ (hw _ (List.mem_of_getElem? (i := 57) rfl))) (mvT hZ (hw _ (List.mem_of_getElem? (i := 56) rfl))) (by decide) (backOf (W := 0) (rm8_1 l Z a0 hw [] b17 b53 b5 T56.heap n0 (Nat.le_trans Z0 K57.1) f56_0 f56_1 ((((((((f19_0.ext E21).wr W23).wr W25).wr W27).wr W29).wr W31).ext E53).keep Kq56) ((((((((f19_1.ext E21).other W23 (Or.inl ne_b17_b21)).other W25 (Or.inl ne_b17_b21)).other W27 (Or.inl ne_b17_b21)).other W29 (Or.inl ne_b17_b21)).other W31 (Or.inl ne_b17_b21)).ext E53).keep Kq56 (ninS ne_b17_b53 nin0))) hZ (hw _ (List.mem_of_getElem? (i := 58) rfl)) (hw _ (List.mem_of_getElem? (i := 2) rfl)) (by decide) (by decide)) q71a q71c (g := (mkF m 114 #[.val (.int p0), .val (.int p1), .val (.ref b1), .val (.ref b5), .val (.ref b9), .val (.ref b13), .val (.ref b17), .val (.ref b21), .val (.int (4 : Int32)), .val (.int (1 : Int32)), .val (.ref b53)] [(.ref b53), (.ref b17)])) rfl (by rw [hml]; rfl) (Steps.refl _) (argsL := [(.ref b53)]) (rest := []) (lenOf pd_3 rfl) rfl (by show 2 * 0 + _ ≤ _; exact Nat.le_of_eq rfl) (hb hby at_114) (fun _ _ => ⟨rfl, rfl, (by decide : 12 + 0 ≤ _), (by decide : 58 + 0 ≤ _)⟩)
      dsimp only [Pt.U, Pt.locs, Pt.cells, Pt.slots] at X71 l71 y71 z71 st71 hQ71
      subst l71 y71 z71
      obtain ⟨rfl, Nq71, eq71⟩ := hQ71
      have N71 := Fr.app N56 Nq71
      refine Runs.by (fun _ hr => st71.trans hr) ?_
      rw [show own_has [b17] b5 = (0 : Int32) from by simp [own_has, (ne_b5_b17 : ¬ b5 = b17)]]
      show Runs p e below _ (T71.setTop (mkF m 117 #[.val (.int p0), .val (.int p1), .val (.ref b1), .val (.ref b5), .val (.ref b9), .val (.ref b13), .val (.ref b17), .val (.ref b21), .val (.int (4 : Int32)), .val (.int (1 : Int32)), .val (.ref b53)] [(.int (0 : Int32))]))
      refine Runs.by (fun _ hr => XS.iload X71.here hx rfl (hb hby at_117) rfl  hr) ?_
      show Runs p e below _ (T71.setTop (mkF m 119 #[.val (.int p0), .val (.int p1), .val (.ref b1), .val (.ref b5), .val (.ref b9), .val (.ref b13), .val (.ref b17), .val (.ref b21), .val (.int (4 : Int32)), .val (.int (1 : Int32)), .val (.ref b53)] [(.int (4 : Int32)), (.int (0 : Int32))]))
      refine Runs.by (fun _ hr => XS.iload X71.here hx rfl (hb hby at_119) rfl  hr) ?_
      show Runs p e below _ (T71.setTop (mkF m 121 #[.val (.int p0), .val (.int p1), .val (.ref b1), .val (.ref b5), .val (.ref b9), .val (.ref b13), .val (.ref b17), .val (.ref b21), .val (.int (4 : Int32)), .val (.int (1 : Int32)), .val (.ref b53)] [(.int (1 : Int32)), (.int (4 : Int32)), (.int (0 : Int32))]))
      obtain ⟨_, _, ⟨T72, L72, k72, n72⟩, -, X72, ⟨Lc72, hQ72, l72, y72, z72⟩, st72⟩ := Jvm.LawKit.callS X71 hx (y := (⟨"com/example/prorata/prorata/request/FormHasPinLaw", "reaches", "(II)Z"⟩ : MethodName)) hown (mvT hZ (hw _ (List.mem_of_getElem? (i := 64) rfl))) (mvT hZ (hw _ (List.mem_of_getElem? (i := 65) rfl))) (mvT hZ (hw _ (List.mem_of_getElem? (i := 66) rfl))) (mvT hZ (hw _ (List.mem_of_getElem? (i := 67) rfl))) (by decide) (backOf (W := 1) (rm10 l Z a0 hw [] (4 : Int32) (1 : Int32)  T56.heap n0 (Nat.le_trans Z0 K57.1) ) hZ (hw _ (List.mem_of_getElem? (i := 67) rfl)) (hw _ (List.mem_of_getElem? (i := 66) rfl)) (by decide) (by decide)) (g := (mkF m 121 #[.val (.int p0), .val (.int p1), .val (.ref b1), .val (.ref b5), .val (.ref b9), .val (.ref b13), .val (.ref b17), .val (.ref b21), .val (.int (4 : Int32)), .val (.int (1 : Int32)), .val (.ref b53)] [(.int (1 : Int32)), (.int (4 : Int32)), (.int (0 : Int32))])) rfl (by rw [hml]; rfl) (argsL := [(.int (4 : Int32)), (.int (1 : Int32))]) (rest := [(.int (0 : Int32))]) (lenOf pd_5 rfl) rfl (by show 2 * 0 + _ ≤ _; exact Nat.le_of_eq rfl) (hb hby at_121) (fun _ _ => ⟨rfl, eq71, (by decide : 12 + 0 ≤ _), (by decide : 58 + 0 ≤ _)⟩)
      dsimp only [Pt.U, Pt.locs, Pt.cells, Pt.slots] at X72 l72 y72 z72 st72 hQ72
      subst l72 y72 z72
      obtain ⟨rfl, Nq72, eq72⟩ := hQ72
      have N72 := Fr.app N71 Nq72
      refine Runs.by (fun t hr => st72 t hr) ?_
      rw [show own_reach (4 : Int32) (1 : Int32) = (0 : Int32) from by decide]
      show Runs p e below _ (T72.setTop (mkF m 124 #[.val (.int p0), .val (.int p1), .val (.ref b1), .val (.ref b5), .val (.ref b9), .val (.ref b13), .val (.ref b17), .val (.ref b21), .val (.int (4 : Int32)), .val (.int (1 : Int32)), .val (.ref b53)] [(.int (0 : Int32)), (.int (0 : Int32))]))
      have hc124 : (0 : Int32) = (0 : Int32) := (by decide)
      refine Runs.by (fun _ hr => XS.icmpNo X72.here hx rfl (hb hby at_124) rfl (teq hc124).2 hr) ?_
      show Runs p e below _ (T72.setTop (mkF m 127 #[.val (.int p0), .val (.int p1), .val (.ref b1), .val (.ref b5), .val (.ref b9), .val (.ref b13), .val (.ref b17), .val (.ref b21), .val (.int (4 : Int32)), .val (.int (1 : Int32)), .val (.ref b53)] []))
      refine Runs.by (fun _ hr => XS.iconst X72.here hx rfl (hb hby at_127) hr) ?_
      show Runs p e below _ (T72.setTop (mkF m 128 #[.val (.int p0), .val (.int p1), .val (.ref b1), .val (.ref b5), .val (.ref b9), .val (.ref b13), .val (.ref b17), .val (.ref b21), .val (.int (4 : Int32)), .val (.int (1 : Int32)), .val (.ref b53)] [(.int (1 : Int32))]))
      refine Runs.by (fun _ hr => XS.goto X72.here hx rfl (pc0 := 128) (pc' := 132) rfl (hb hby at_128) (by decide) (by decide) hr) ?_
      show Runs p e below _ (T72.setTop (mkF m 132 #[.val (.int p0), .val (.int p1), .val (.ref b1), .val (.ref b5), .val (.ref b9), .val (.ref b13), .val (.ref b17), .val (.ref b21), .val (.int (4 : Int32)), .val (.int (1 : Int32)), .val (.ref b53)] [(.int (1 : Int32))]))
      refine Runs.ret X72 hx hrt hlk (Or.inl ⟨rfl, by simp, _, rfl⟩) (by rfl) (hb hby at_132) (by decide) (by decide) ?_
      rw [eq72]
      exact ⟨rfl, N72⟩
  · skip
    show Runs p e below _ (T31.setTop (mkF m 91 #[.val (.int p0), .val (.int p1), .val (.ref b1), .val (.ref b5), .val (.ref b9), .val (.ref b13), .val (.ref b17), .val (.ref b21), .val (.int ((p0 &&& (2147483647 : Int32)) % (5 : Int32))), .val (.int (2 : Int32)), .unset] []))
    obtain ⟨T73, h73, X73, e73, E73, A73, D73, -, st73⟩ := newO X31 hx hZ hown (hw _ (List.mem_of_getElem? (i := 36) rfl)) (hw _ (List.mem_of_getElem? (i := 37) rfl)) (hw _ (List.mem_of_getElem? (i := 38) rfl)) e31 (g := (mkF m 91 #[.val (.int p0), .val (.int p1), .val (.ref b1), .val (.ref b5), .val (.ref b9), .val (.ref b13), .val (.ref b17), .val (.ref b21), .val (.int ((p0 &&& (2147483647 : Int32)) % (5 : Int32))), .val (.int (2 : Int32)), .unset] [])) rfl (hb hby at_91) (by decide) (by decide)
    obtain ⟨b73, gz73⟩ : ∃ z, z = h31.size := ⟨_, rfl⟩
    rw [← gz73] at A73 D73 st73
    have ne_b1_b73 : b1 ≠ b73 := Nat.ne_of_lt (Nat.lt_of_lt_of_le ((((((((((((((f3_0.ext E5).keep Kq7).ext E9).keep Kq11).ext E13).keep Kq15).ext E17).keep Kq19).ext E21).wr W23).wr W25).wr W27).wr W29).wr W31).lt (Nat.le_of_eq gz73.symm))
    have ne_b5_b73 : b5 ≠ b73 := Nat.ne_of_lt (Nat.lt_of_lt_of_le ((((((((((((f7_0.ext E9).keep Kq11).ext E13).keep Kq15).ext E17).keep Kq19).ext E21).wr W23).wr W25).wr W27).wr W29).wr W31).lt (Nat.le_of_eq gz73.symm))
    have ne_b9_b73 : b9 ≠ b73 := Nat.ne_of_lt (Nat.lt_of_lt_of_le ((((((((((f11_0.ext E13).keep Kq15).ext E17).keep Kq19).ext E21).wr W23).wr W25).wr W27).wr W29).wr W31).lt (Nat.le_of_eq gz73.symm))
    have ne_b13_b73 : b13 ≠ b73 := Nat.ne_of_lt (Nat.lt_of_lt_of_le ((((((((f15_0.ext E17).keep Kq19).ext E21).wr W23).wr W25).wr W27).wr W29).wr W31).lt (Nat.le_of_eq gz73.symm))
    have ne_b17_b73 : b17 ≠ b73 := Nat.ne_of_lt (Nat.lt_of_lt_of_le ((((((f19_0.ext E21).wr W23).wr W25).wr W27).wr W29).wr W31).lt (Nat.le_of_eq gz73.symm))
    have ne_b21_b73 : b21 ≠ b73 := Nat.ne_of_lt (Nat.lt_of_lt_of_le V31.lt (Nat.le_of_eq gz73.symm))
    have g_b73 : n0 ≤ b73 := Nat.le_trans (Nat.le_trans Z0 K32.1) (Nat.le_of_eq gz73.symm)
    have sz_b73 : h0.size ≤ b73 := Nat.le_trans K32.1 (Nat.le_of_eq gz73.symm)
    have K74 : Keep h0 h73 [] := K32.ext E73
    have F_form_b73 : Fld Z h73 b73 "com/example/prorata/prorata/request/Form$Field" "form" "Lcom/example/prorata/prorata/request/Form;" .null := D73 (Or.inr (hw _ (List.mem_of_getElem? (i := 49) rfl))) (ty := (.object "com/example/prorata/prorata/request/Form")) (by decide)
    have F_name_b73 : Fld Z h73 b73 "com/example/prorata/prorata/request/Form$Field" "name" "Ljava/lang/String;" .null := D73 (Or.inr (hw _ (List.mem_of_getElem? (i := 51) rfl))) (ty := (.object "java/lang/String")) (by decide)
    have F_holds_b73 : Fld Z h73 b73 "com/example/prorata/prorata/request/Form$Field" "holds" "Lcom/example/prorata/prorata/request/Form;" .null := D73 (Or.inr (hw _ (List.mem_of_getElem? (i := 53) rfl))) (ty := (.object "com/example/prorata/prorata/request/Form")) (by decide)
    refine Runs.by st73 ?_
    show Runs p e below _ (T73.setTop (mkF m 94 #[.val (.int p0), .val (.int p1), .val (.ref b1), .val (.ref b5), .val (.ref b9), .val (.ref b13), .val (.ref b17), .val (.ref b21), .val (.int ((p0 &&& (2147483647 : Int32)) % (5 : Int32))), .val (.int (2 : Int32)), .unset] [(.ref b73)]))
    refine Runs.by (fun _ hr => XS.dup X73.here hx rfl (hb hby at_94) rfl rfl hr) ?_
    show Runs p e below _ (T73.setTop (mkF m 95 #[.val (.int p0), .val (.int p1), .val (.ref b1), .val (.ref b5), .val (.ref b9), .val (.ref b13), .val (.ref b17), .val (.ref b21), .val (.int ((p0 &&& (2147483647 : Int32)) % (5 : Int32))), .val (.int (2 : Int32)), .unset] [(.ref b73), (.ref b73)]))
    refine Runs.by (fun _ hr => XS.aload X73.here hx rfl (hb hby at_95) rfl rfl hr) ?_
    show Runs p e below _ (T73.setTop (mkF m 97 #[.val (.int p0), .val (.int p1), .val (.ref b1), .val (.ref b5), .val (.ref b9), .val (.ref b13), .val (.ref b17), .val (.ref b21), .val (.int ((p0 &&& (2147483647 : Int32)) % (5 : Int32))), .val (.int (2 : Int32)), .unset] [(.ref b21), (.ref b73), (.ref b73)]))
    refine Runs.by (fun _ hr => XS.iload X73.here hx rfl (hb hby at_97) rfl  hr) ?_
    show Runs p e below _ (T73.setTop (mkF m 99 #[.val (.int p0), .val (.int p1), .val (.ref b1), .val (.ref b5), .val (.ref b9), .val (.ref b13), .val (.ref b17), .val (.ref b21), .val (.int ((p0 &&& (2147483647 : Int32)) % (5 : Int32))), .val (.int (2 : Int32)), .unset] [(.int (2 : Int32)), (.ref b21), (.ref b73), (.ref b73)]))
    obtain ⟨cl75, Ar75, -, S75, N75', H75, -⟩ := id (V31.ext E73)
    have hin75 : ¬ ((2 : Int32) < 0 ∨ cl75.slots.size ≤ ((2 : Int32)).toNatClampNeg) := inb_of S75 ⟨by decide, by decide⟩
    have hat75 := H75.at hin75 (v := (.ref b9)) rfl
    refine Runs.by (fun t hr => X73.aaload hx (j := (2 : Int32)) (v := (.ref b9)) (by rw [e73]; exact Ar75.1) (State.isArrayOf_alike hZ.alike Ar75.2.1) rfl Ar75.2.2 hin75 hat75 (g := (mkF m 99 #[.val (.int p0), .val (.int p1), .val (.ref b1), .val (.ref b5), .val (.ref b9), .val (.ref b13), .val (.ref b17), .val (.ref b21), .val (.int ((p0 &&& (2147483647 : Int32)) % (5 : Int32))), .val (.int (2 : Int32)), .unset] [(.int (2 : Int32)), (.ref b21), (.ref b73), (.ref b73)])) rfl rfl (hb hby at_99) t hr) ?_
    show Runs p e below _ (T73.setTop (mkF m 100 #[.val (.int p0), .val (.int p1), .val (.ref b1), .val (.ref b5), .val (.ref b9), .val (.ref b13), .val (.ref b17), .val (.ref b21), .val (.int ((p0 &&& (2147483647 : Int32)) % (5 : Int32))), .val (.int (2 : Int32)), .unset] [(.ref b9), (.ref b73), (.ref b73)]))
    refine Runs.by (fun _ hr => XS.aconstNull X73.here hx rfl (hb hby at_100) hr) ?_
    show Runs p e below _ (T73.setTop (mkF m 101 #[.val (.int p0), .val (.int p1), .val (.ref b1), .val (.ref b5), .val (.ref b9), .val (.ref b13), .val (.ref b17), .val (.ref b21), .val (.int ((p0 &&& (2147483647 : Int32)) % (5 : Int32))), .val (.int (2 : Int32)), .unset] [.null, (.ref b9), (.ref b73), (.ref b73)]))
    refine Runs.by (fun _ hr => XS.aconstNull X73.here hx rfl (hb hby at_101) hr) ?_
    show Runs p e below _ (T73.setTop (mkF m 102 #[.val (.int p0), .val (.int p1), .val (.ref b1), .val (.ref b5), .val (.ref b9), .val (.ref b13), .val (.ref b17), .val (.ref b21), .val (.int ((p0 &&& (2147483647 : Int32)) % (5 : Int32))), .val (.int (2 : Int32)), .unset] [.null, .null, (.ref b9), (.ref b73), (.ref b73)]))
    obtain ⟨_, _, ⟨T76, L76, k76, n76⟩, -, X76, ⟨Lc76, hQ76, l76, y76, z76⟩, st76⟩ := X73.specialBack hx (y := (⟨"com/example/prorata/prorata/request/Form$Field", "<init>", "(Lcom/example/prorata/prorata/request/Form;Ljava/lang/String;Lcom/example/prorata/prorata/request/Form;)V"⟩ : MethodName)) rfl hown (mvT hZ (hw _ (List.mem_of_getElem? (i := 39) rfl))) (mvT hZ (hw _ (List.mem_of_getElem? (i := 40) rfl))) (mvT hZ (hw _ (List.mem_of_getElem? (i := 41) rfl))) (by decide) (backOf (W := 1) (rm6 l Z a0 hw [] b73 b9  h73 n0 (Nat.le_trans Z0 K74.1) A73 F_form_b73 F_name_b73 F_holds_b73 g_b73) hZ (hw _ (List.mem_of_getElem? (i := 41) rfl)) (hw _ (List.mem_of_getElem? (i := 38) rfl)) (by decide) (by decide)) (g := (mkF m 102 #[.val (.int p0), .val (.int p1), .val (.ref b1), .val (.ref b5), .val (.ref b9), .val (.ref b13), .val (.ref b17), .val (.ref b21), .val (.int ((p0 &&& (2147483647 : Int32)) % (5 : Int32))), .val (.int (2 : Int32)), .unset] [.null, .null, (.ref b9), (.ref b73), (.ref b73)])) rfl (by rw [hml]; rfl) (Steps.refl _) (a := b73) (argsL := [(.ref b9), .null, .null]) (rest := [(.ref b73)]) (lenOf pd_4 rfl) rfl (by show 2 * 0 + _ ≤ _; exact Nat.le_of_eq rfl) (hb hby at_102) (fun _ _ => ⟨rfl, e73, (by decide : 12 + 0 ≤ _), (by decide : 58 + 0 ≤ _)⟩)
    dsimp only [Pt.U, Pt.locs, Pt.cells, Pt.slots] at X76 l76 y76 z76 st76 hQ76
    subst l76 y76 z76
    obtain ⟨rfl, Nq76, Kq76, f76_0, f76_1⟩ := hQ76
    have N76 := Fr.app N31 Nq76
    have K77 : Keep h0 T76.heap [] := Keep.trans (ws := []) K74 Kq76 (allS (Or.inr sz_b73) all0)
    refine Runs.by (fun _ hr => st76.trans hr) ?_
    show Runs p e below _ (T76.setTop (mkF m 105 #[.val (.int p0), .val (.int p1), .val (.ref b1), .val (.ref b5), .val (.ref b9), .val (.ref b13), .val (.ref b17), .val (.ref b21), .val (.int ((p0 &&& (2147483647 : Int32)) % (5 : Int32))), .val (.int (2 : Int32)), .unset] [(.ref b73)]))
    refine Runs.by (fun _ hr => XS.astore X76.here hx rfl (hb hby at_105) rfl rfl (l' := #[.val (.int p0), .val (.int p1), .val (.ref b1), .val (.ref b5), .val (.ref b9), .val (.ref b13), .val (.ref b17), .val (.ref b21), .val (.int ((p0 &&& (2147483647 : Int32)) % (5 : Int32))), .val (.int (2 : Int32)), .val (.ref b73)]) rfl hr) ?_
    have hk8 := own_mod5 p0
    generalize (p0 &&& (2147483647 : Int32)) % (5 : Int32) = kk at hk8 ⊢
    rcases hk8 with rfl | rfl | rfl | rfl | rfl
    · skip
      show Runs p e below _ (T76.setTop (mkF m 107 #[.val (.int p0), .val (.int p1), .val (.ref b1), .val (.ref b5), .val (.ref b9), .val (.ref b13), .val (.ref b17), .val (.ref b21), .val (.int (0 : Int32)), .val (.int (2 : Int32)), .val (.ref b73)] []))
      refine Runs.by (fun _ hr => XS.aload X76.here hx rfl (hb hby at_107) rfl rfl hr) ?_
      show Runs p e below _ (T76.setTop (mkF m 109 #[.val (.int p0), .val (.int p1), .val (.ref b1), .val (.ref b5), .val (.ref b9), .val (.ref b13), .val (.ref b17), .val (.ref b21), .val (.int (0 : Int32)), .val (.int (2 : Int32)), .val (.ref b73)] [(.ref b21)]))
      refine Runs.by (fun _ hr => XS.iload X76.here hx rfl (hb hby at_109) rfl  hr) ?_
      show Runs p e below _ (T76.setTop (mkF m 111 #[.val (.int p0), .val (.int p1), .val (.ref b1), .val (.ref b5), .val (.ref b9), .val (.ref b13), .val (.ref b17), .val (.ref b21), .val (.int (0 : Int32)), .val (.int (2 : Int32)), .val (.ref b73)] [(.int (0 : Int32)), (.ref b21)]))
      obtain ⟨cl78, Ar78, -, S78, N78', H78, -⟩ := id ((V31.ext E73).keep Kq76 (ninS ne_b21_b73 nin0))
      have hin78 : ¬ ((0 : Int32) < 0 ∨ cl78.slots.size ≤ ((0 : Int32)).toNatClampNeg) := inb_of S78 ⟨by decide, by decide⟩
      have hat78 := H78.at hin78 (v := (.ref b1)) rfl
      refine Runs.by (fun t hr => X76.aaload hx (j := (0 : Int32)) (v := (.ref b1)) (by exact Ar78.1) (State.isArrayOf_alike hZ.alike Ar78.2.1) rfl Ar78.2.2 hin78 hat78 (g := (mkF m 111 #[.val (.int p0), .val (.int p1), .val (.ref b1), .val (.ref b5), .val (.ref b9), .val (.ref b13), .val (.ref b17), .val (.ref b21), .val (.int (0 : Int32)), .val (.int (2 : Int32)), .val (.ref b73)] [(.int (0 : Int32)), (.ref b21)])) rfl rfl (hb hby at_111) t hr) ?_
      show Runs p e below _ (T76.setTop (mkF m 112 #[.val (.int p0), .val (.int p1), .val (.ref b1), .val (.ref b5), .val (.ref b9), .val (.ref b13), .val (.ref b17), .val (.ref b21), .val (.int (0 : Int32)), .val (.int (2 : Int32)), .val (.ref b73)] [(.ref b1)]))
      refine Runs.by (fun _ hr => XS.aload X76.here hx rfl (hb hby at_112) rfl rfl hr) ?_
      show Runs p e below _ (T76.setTop (mkF m 114 #[.val (.int p0), .val (.int p1), .val (.ref b1), .val (.ref b5), .val (.ref b9), .val (.ref b13), .val (.ref b17), .val (.ref b21), .val (.int (0 : Int32)), .val (.int (2 : Int32)), .val (.ref b73)] [(.ref b73), (.ref b1)]))
      obtain ⟨cq79, kq79, q79a, q79b, q79c⟩ := isOf hZ rfl ((((((((((((((((f3_0.ext E5).keep Kq7).ext E9).keep Kq11).ext E13).keep Kq15).ext E17).keep Kq19).ext E21).wr W23).wr W25).wr W27).wr W29).wr W31).ext E73).keep Kq76)
      obtain ⟨_, _, ⟨T79, L79, k79, n79⟩, -, X79, ⟨Lc79, hQ79, l79, y79, z79⟩, st79⟩ := X76.virtualBack hx (y := (⟨"com/example/prorata/prorata/request/Form", "has", "(Lcom/example/prorata/prorata/request/Form$Field;)Z"⟩ : MethodName)) (z := (⟨"com/example/prorata/prorata/request/Form", "has", "(Lcom/example/prorata/prorata/request/Form$Field;)Z"⟩ : MethodName)) hown (mvT hZ (hw _ (List.mem_of_getElem? (i := 54) rfl))) (mvT hZ (hw _ (List.mem_of_getElem? (i := 55) rfl))) (notFace_of_selects (args := #[]) (mvT hZ (hw _ (List.mem_of_getElem? (i := 57) rfl)))) (mvT hZ (hw _ (List.mem_of_getElem? (i := 57) rfl))) (mvT hZ (hw _ (List.mem_of_getElem? (i := 56) rfl))) (by decide) (backOf (W := 0) (rm8_1 l Z a0 hw [] b1 b73 b9 T76.heap n0 (Nat.le_trans Z0 K77.1) f76_0 f76_1 ((((((((((((((((f3_0.ext E5).keep Kq7).ext E9).keep Kq11).ext E13).keep Kq15).ext E17).keep Kq19).ext E21).wr W23).wr W25).wr W27).wr W29).wr W31).ext E73).keep Kq76) ((((((((((((((((f3_1.ext E5).keep Kq7 (ninS ne_b1_b5 nin0)).ext E9).keep Kq11 (ninS ne_b1_b9 nin0)).ext E13).keep Kq15 (ninS ne_b1_b13 nin0)).ext E17).keep Kq19 (ninS ne_b1_b17 nin0)).ext E21).other W23 (Or.inl ne_b1_b21)).other W25 (Or.inl ne_b1_b21)).other W27 (Or.inl ne_b1_b21)).other W29 (Or.inl ne_b1_b21)).other W31 (Or.inl ne_b1_b21)).ext E73).keep Kq76 (ninS ne_b1_b73 nin0))) hZ (hw _ (List.mem_of_getElem? (i := 58) rfl)) (hw _ (List.mem_of_getElem? (i := 2) rfl)) (by decide) (by decide)) q79a q79c (g := (mkF m 114 #[.val (.int p0), .val (.int p1), .val (.ref b1), .val (.ref b5), .val (.ref b9), .val (.ref b13), .val (.ref b17), .val (.ref b21), .val (.int (0 : Int32)), .val (.int (2 : Int32)), .val (.ref b73)] [(.ref b73), (.ref b1)])) rfl (by rw [hml]; rfl) (Steps.refl _) (argsL := [(.ref b73)]) (rest := []) (lenOf pd_3 rfl) rfl (by show 2 * 0 + _ ≤ _; exact Nat.le_of_eq rfl) (hb hby at_114) (fun _ _ => ⟨rfl, rfl, (by decide : 12 + 0 ≤ _), (by decide : 58 + 0 ≤ _)⟩)
      dsimp only [Pt.U, Pt.locs, Pt.cells, Pt.slots] at X79 l79 y79 z79 st79 hQ79
      subst l79 y79 z79
      obtain ⟨rfl, Nq79, eq79⟩ := hQ79
      have N79 := Fr.app N76 Nq79
      refine Runs.by (fun _ hr => st79.trans hr) ?_
      rw [show own_has [b1] b9 = (0 : Int32) from by simp [own_has, ((Ne.symm ne_b1_b9) : ¬ b9 = b1)]]
      show Runs p e below _ (T79.setTop (mkF m 117 #[.val (.int p0), .val (.int p1), .val (.ref b1), .val (.ref b5), .val (.ref b9), .val (.ref b13), .val (.ref b17), .val (.ref b21), .val (.int (0 : Int32)), .val (.int (2 : Int32)), .val (.ref b73)] [(.int (0 : Int32))]))
      refine Runs.by (fun _ hr => XS.iload X79.here hx rfl (hb hby at_117) rfl  hr) ?_
      show Runs p e below _ (T79.setTop (mkF m 119 #[.val (.int p0), .val (.int p1), .val (.ref b1), .val (.ref b5), .val (.ref b9), .val (.ref b13), .val (.ref b17), .val (.ref b21), .val (.int (0 : Int32)), .val (.int (2 : Int32)), .val (.ref b73)] [(.int (0 : Int32)), (.int (0 : Int32))]))
      refine Runs.by (fun _ hr => XS.iload X79.here hx rfl (hb hby at_119) rfl  hr) ?_
      show Runs p e below _ (T79.setTop (mkF m 121 #[.val (.int p0), .val (.int p1), .val (.ref b1), .val (.ref b5), .val (.ref b9), .val (.ref b13), .val (.ref b17), .val (.ref b21), .val (.int (0 : Int32)), .val (.int (2 : Int32)), .val (.ref b73)] [(.int (2 : Int32)), (.int (0 : Int32)), (.int (0 : Int32))]))
      obtain ⟨_, _, ⟨T80, L80, k80, n80⟩, -, X80, ⟨Lc80, hQ80, l80, y80, z80⟩, st80⟩ := Jvm.LawKit.callS X79 hx (y := (⟨"com/example/prorata/prorata/request/FormHasPinLaw", "reaches", "(II)Z"⟩ : MethodName)) hown (mvT hZ (hw _ (List.mem_of_getElem? (i := 64) rfl))) (mvT hZ (hw _ (List.mem_of_getElem? (i := 65) rfl))) (mvT hZ (hw _ (List.mem_of_getElem? (i := 66) rfl))) (mvT hZ (hw _ (List.mem_of_getElem? (i := 67) rfl))) (by decide) (backOf (W := 1) (rm10 l Z a0 hw [] (0 : Int32) (2 : Int32)  T76.heap n0 (Nat.le_trans Z0 K77.1) ) hZ (hw _ (List.mem_of_getElem? (i := 67) rfl)) (hw _ (List.mem_of_getElem? (i := 66) rfl)) (by decide) (by decide)) (g := (mkF m 121 #[.val (.int p0), .val (.int p1), .val (.ref b1), .val (.ref b5), .val (.ref b9), .val (.ref b13), .val (.ref b17), .val (.ref b21), .val (.int (0 : Int32)), .val (.int (2 : Int32)), .val (.ref b73)] [(.int (2 : Int32)), (.int (0 : Int32)), (.int (0 : Int32))])) rfl (by rw [hml]; rfl) (argsL := [(.int (0 : Int32)), (.int (2 : Int32))]) (rest := [(.int (0 : Int32))]) (lenOf pd_5 rfl) rfl (by show 2 * 0 + _ ≤ _; exact Nat.le_of_eq rfl) (hb hby at_121) (fun _ _ => ⟨rfl, eq79, (by decide : 12 + 0 ≤ _), (by decide : 58 + 0 ≤ _)⟩)
      dsimp only [Pt.U, Pt.locs, Pt.cells, Pt.slots] at X80 l80 y80 z80 st80 hQ80
      subst l80 y80 z80
      obtain ⟨rfl, Nq80, eq80⟩ := hQ80
      have N80 := Fr.app N79 Nq80
      refine Runs.by (fun t hr => st80 t hr) ?_
      rw [show own_reach (0 : Int32) (2 : Int32) = (0 : Int32) from by decide]
      show Runs p e below _ (T80.setTop (mkF m 124 #[.val (.int p0), .val (.int p1), .val (.ref b1), .val (.ref b5), .val (.ref b9), .val (.ref b13), .val (.ref b17), .val (.ref b21), .val (.int (0 : Int32)), .val (.int (2 : Int32)), .val (.ref b73)] [(.int (0 : Int32)), (.int (0 : Int32))]))
      have hc124 : (0 : Int32) = (0 : Int32) := (by decide)
      refine Runs.by (fun _ hr => XS.icmpNo X80.here hx rfl (hb hby at_124) rfl (teq hc124).2 hr) ?_
      show Runs p e below _ (T80.setTop (mkF m 127 #[.val (.int p0), .val (.int p1), .val (.ref b1), .val (.ref b5), .val (.ref b9), .val (.ref b13), .val (.ref b17), .val (.ref b21), .val (.int (0 : Int32)), .val (.int (2 : Int32)), .val (.ref b73)] []))
      refine Runs.by (fun _ hr => XS.iconst X80.here hx rfl (hb hby at_127) hr) ?_
      show Runs p e below _ (T80.setTop (mkF m 128 #[.val (.int p0), .val (.int p1), .val (.ref b1), .val (.ref b5), .val (.ref b9), .val (.ref b13), .val (.ref b17), .val (.ref b21), .val (.int (0 : Int32)), .val (.int (2 : Int32)), .val (.ref b73)] [(.int (1 : Int32))]))
      refine Runs.by (fun _ hr => XS.goto X80.here hx rfl (pc0 := 128) (pc' := 132) rfl (hb hby at_128) (by decide) (by decide) hr) ?_
      show Runs p e below _ (T80.setTop (mkF m 132 #[.val (.int p0), .val (.int p1), .val (.ref b1), .val (.ref b5), .val (.ref b9), .val (.ref b13), .val (.ref b17), .val (.ref b21), .val (.int (0 : Int32)), .val (.int (2 : Int32)), .val (.ref b73)] [(.int (1 : Int32))]))
      refine Runs.ret X80 hx hrt hlk (Or.inl ⟨rfl, by simp, _, rfl⟩) (by rfl) (hb hby at_132) (by decide) (by decide) ?_
      rw [eq80]
      exact ⟨rfl, N80⟩
    · skip
      show Runs p e below _ (T76.setTop (mkF m 107 #[.val (.int p0), .val (.int p1), .val (.ref b1), .val (.ref b5), .val (.ref b9), .val (.ref b13), .val (.ref b17), .val (.ref b21), .val (.int (1 : Int32)), .val (.int (2 : Int32)), .val (.ref b73)] []))
      refine Runs.by (fun _ hr => XS.aload X76.here hx rfl (hb hby at_107) rfl rfl hr) ?_
      show Runs p e below _ (T76.setTop (mkF m 109 #[.val (.int p0), .val (.int p1), .val (.ref b1), .val (.ref b5), .val (.ref b9), .val (.ref b13), .val (.ref b17), .val (.ref b21), .val (.int (1 : Int32)), .val (.int (2 : Int32)), .val (.ref b73)] [(.ref b21)]))
      refine Runs.by (fun _ hr => XS.iload X76.here hx rfl (hb hby at_109) rfl  hr) ?_
      show Runs p e below _ (T76.setTop (mkF m 111 #[.val (.int p0), .val (.int p1), .val (.ref b1), .val (.ref b5), .val (.ref b9), .val (.ref b13), .val (.ref b17), .val (.ref b21), .val (.int (1 : Int32)), .val (.int (2 : Int32)), .val (.ref b73)] [(.int (1 : Int32)), (.ref b21)]))
      obtain ⟨cl81, Ar81, -, S81, N81', H81, -⟩ := id ((V31.ext E73).keep Kq76 (ninS ne_b21_b73 nin0))
      have hin81 : ¬ ((1 : Int32) < 0 ∨ cl81.slots.size ≤ ((1 : Int32)).toNatClampNeg) := inb_of S81 ⟨by decide, by decide⟩
      have hat81 := H81.at hin81 (v := (.ref b5)) rfl
      refine Runs.by (fun t hr => X76.aaload hx (j := (1 : Int32)) (v := (.ref b5)) (by exact Ar81.1) (State.isArrayOf_alike hZ.alike Ar81.2.1) rfl Ar81.2.2 hin81 hat81 (g := (mkF m 111 #[.val (.int p0), .val (.int p1), .val (.ref b1), .val (.ref b5), .val (.ref b9), .val (.ref b13), .val (.ref b17), .val (.ref b21), .val (.int (1 : Int32)), .val (.int (2 : Int32)), .val (.ref b73)] [(.int (1 : Int32)), (.ref b21)])) rfl rfl (hb hby at_111) t hr) ?_
      show Runs p e below _ (T76.setTop (mkF m 112 #[.val (.int p0), .val (.int p1), .val (.ref b1), .val (.ref b5), .val (.ref b9), .val (.ref b13), .val (.ref b17), .val (.ref b21), .val (.int (1 : Int32)), .val (.int (2 : Int32)), .val (.ref b73)] [(.ref b5)]))
      refine Runs.by (fun _ hr => XS.aload X76.here hx rfl (hb hby at_112) rfl rfl hr) ?_
      show Runs p e below _ (T76.setTop (mkF m 114 #[.val (.int p0), .val (.int p1), .val (.ref b1), .val (.ref b5), .val (.ref b9), .val (.ref b13), .val (.ref b17), .val (.ref b21), .val (.int (1 : Int32)), .val (.int (2 : Int32)), .val (.ref b73)] [(.ref b73), (.ref b5)]))
      obtain ⟨cq82, kq82, q82a, q82b, q82c⟩ := isOf hZ rfl ((((((((((((((f7_0.ext E9).keep Kq11).ext E13).keep Kq15).ext E17).keep Kq19).ext E21).wr W23).wr W25).wr W27).wr W29).wr W31).ext E73).keep Kq76)
      obtain ⟨_, _, ⟨T82, L82, k82, n82⟩, -, X82, ⟨Lc82, hQ82, l82, y82, z82⟩, st82⟩ := X76.virtualBack hx (y := (⟨"com/example/prorata/prorata/request/Form", "has", "(Lcom/example/prorata/prorata/request/Form$Field;)Z"⟩ : MethodName)) (z := (⟨"com/example/prorata/prorata/request/Form", "has", "(Lcom/example/prorata/prorata/request/Form$Field;)Z"⟩ : MethodName)) hown (mvT hZ (hw _ (List.mem_of_getElem? (i := 54) rfl))) (mvT hZ (hw _ (List.mem_of_getElem? (i := 55) rfl))) (notFace_of_selects (args := #[]) (mvT hZ (hw _ (List.mem_of_getElem? (i := 57) rfl)))) (mvT hZ (hw _ (List.mem_of_getElem? (i := 57) rfl))) (mvT hZ (hw _ (List.mem_of_getElem? (i := 56) rfl))) (by decide) (backOf (W := 0) (rm8_2 l Z a0 hw [] b5 b73 b9 b1 T76.heap n0 (Nat.le_trans Z0 K77.1) f76_0 f76_1 ((((((((((((((f7_0.ext E9).keep Kq11).ext E13).keep Kq15).ext E17).keep Kq19).ext E21).wr W23).wr W25).wr W27).wr W29).wr W31).ext E73).keep Kq76) ((((((((((((((f7_1.ext E9).keep Kq11 (ninS ne_b5_b9 nin0)).ext E13).keep Kq15 (ninS ne_b5_b13 nin0)).ext E17).keep Kq19 (ninS ne_b5_b17 nin0)).ext E21).other W23 (Or.inl ne_b5_b21)).other W25 (Or.inl ne_b5_b21)).other W27 (Or.inl ne_b5_b21)).other W29 (Or.inl ne_b5_b21)).other W31 (Or.inl ne_b5_b21)).ext E73).keep Kq76 (ninS ne_b5_b73 nin0)) ((((((((((((((((f3_0.ext E5).keep Kq7).ext E9).keep Kq11).ext E13).keep Kq15).ext E17).keep Kq19).ext E21).wr W23).wr W25).wr W27).wr W29).wr W31).ext E73).keep Kq76) ((((((((((((((((f3_1.ext E5).keep Kq7 (ninS ne_b1_b5 nin0)).ext E9).keep Kq11 (ninS ne_b1_b9 nin0)).ext E13).keep Kq15 (ninS ne_b1_b13 nin0)).ext E17).keep Kq19 (ninS ne_b1_b17 nin0)).ext E21).other W23 (Or.inl ne_b1_b21)).other W25 (Or.inl ne_b1_b21)).other W27 (Or.inl ne_b1_b21)).other W29 (Or.inl ne_b1_b21)).other W31 (Or.inl ne_b1_b21)).ext E73).keep Kq76 (ninS ne_b1_b73 nin0))) hZ (hw _ (List.mem_of_getElem? (i := 58) rfl)) (hw _ (List.mem_of_getElem? (i := 2) rfl)) (by decide) (by decide)) q82a q82c (g := (mkF m 114 #[.val (.int p0), .val (.int p1), .val (.ref b1), .val (.ref b5), .val (.ref b9), .val (.ref b13), .val (.ref b17), .val (.ref b21), .val (.int (1 : Int32)), .val (.int (2 : Int32)), .val (.ref b73)] [(.ref b73), (.ref b5)])) rfl (by rw [hml]; rfl) (Steps.refl _) (argsL := [(.ref b73)]) (rest := []) (lenOf pd_3 rfl) rfl (by show 2 * 0 + _ ≤ _; exact Nat.le_of_eq rfl) (hb hby at_114) (fun _ _ => ⟨rfl, rfl, (by decide : 12 + 0 ≤ _), (by decide : 58 + 0 ≤ _)⟩)
      dsimp only [Pt.U, Pt.locs, Pt.cells, Pt.slots] at X82 l82 y82 z82 st82 hQ82
      subst l82 y82 z82
      obtain ⟨rfl, Nq82, eq82⟩ := hQ82
      have N82 := Fr.app N76 Nq82
      refine Runs.by (fun _ hr => st82.trans hr) ?_
      rw [show own_has [b5, b1] b9 = (0 : Int32) from by simp [own_has, ((Ne.symm ne_b5_b9) : ¬ b9 = b5), ((Ne.symm ne_b1_b9) : ¬ b9 = b1)]]
      show Runs p e below _ (T82.setTop (mkF m 117 #[.val (.int p0), .val (.int p1), .val (.ref b1), .val (.ref b5), .val (.ref b9), .val (.ref b13), .val (.ref b17), .val (.ref b21), .val (.int (1 : Int32)), .val (.int (2 : Int32)), .val (.ref b73)] [(.int (0 : Int32))]))
      refine Runs.by (fun _ hr => XS.iload X82.here hx rfl (hb hby at_117) rfl  hr) ?_
      show Runs p e below _ (T82.setTop (mkF m 119 #[.val (.int p0), .val (.int p1), .val (.ref b1), .val (.ref b5), .val (.ref b9), .val (.ref b13), .val (.ref b17), .val (.ref b21), .val (.int (1 : Int32)), .val (.int (2 : Int32)), .val (.ref b73)] [(.int (1 : Int32)), (.int (0 : Int32))]))
      refine Runs.by (fun _ hr => XS.iload X82.here hx rfl (hb hby at_119) rfl  hr) ?_
      show Runs p e below _ (T82.setTop (mkF m 121 #[.val (.int p0), .val (.int p1), .val (.ref b1), .val (.ref b5), .val (.ref b9), .val (.ref b13), .val (.ref b17), .val (.ref b21), .val (.int (1 : Int32)), .val (.int (2 : Int32)), .val (.ref b73)] [(.int (2 : Int32)), (.int (1 : Int32)), (.int (0 : Int32))]))
      obtain ⟨_, _, ⟨T83, L83, k83, n83⟩, -, X83, ⟨Lc83, hQ83, l83, y83, z83⟩, st83⟩ := Jvm.LawKit.callS X82 hx (y := (⟨"com/example/prorata/prorata/request/FormHasPinLaw", "reaches", "(II)Z"⟩ : MethodName)) hown (mvT hZ (hw _ (List.mem_of_getElem? (i := 64) rfl))) (mvT hZ (hw _ (List.mem_of_getElem? (i := 65) rfl))) (mvT hZ (hw _ (List.mem_of_getElem? (i := 66) rfl))) (mvT hZ (hw _ (List.mem_of_getElem? (i := 67) rfl))) (by decide) (backOf (W := 1) (rm10 l Z a0 hw [] (1 : Int32) (2 : Int32)  T76.heap n0 (Nat.le_trans Z0 K77.1) ) hZ (hw _ (List.mem_of_getElem? (i := 67) rfl)) (hw _ (List.mem_of_getElem? (i := 66) rfl)) (by decide) (by decide)) (g := (mkF m 121 #[.val (.int p0), .val (.int p1), .val (.ref b1), .val (.ref b5), .val (.ref b9), .val (.ref b13), .val (.ref b17), .val (.ref b21), .val (.int (1 : Int32)), .val (.int (2 : Int32)), .val (.ref b73)] [(.int (2 : Int32)), (.int (1 : Int32)), (.int (0 : Int32))])) rfl (by rw [hml]; rfl) (argsL := [(.int (1 : Int32)), (.int (2 : Int32))]) (rest := [(.int (0 : Int32))]) (lenOf pd_5 rfl) rfl (by show 2 * 0 + _ ≤ _; exact Nat.le_of_eq rfl) (hb hby at_121) (fun _ _ => ⟨rfl, eq82, (by decide : 12 + 0 ≤ _), (by decide : 58 + 0 ≤ _)⟩)
      dsimp only [Pt.U, Pt.locs, Pt.cells, Pt.slots] at X83 l83 y83 z83 st83 hQ83
      subst l83 y83 z83
      obtain ⟨rfl, Nq83, eq83⟩ := hQ83
      have N83 := Fr.app N82 Nq83
      refine Runs.by (fun t hr => st83 t hr) ?_
      rw [show own_reach (1 : Int32) (2 : Int32) = (0 : Int32) from by decide]
      show Runs p e below _ (T83.setTop (mkF m 124 #[.val (.int p0), .val (.int p1), .val (.ref b1), .val (.ref b5), .val (.ref b9), .val (.ref b13), .val (.ref b17), .val (.ref b21), .val (.int (1 : Int32)), .val (.int (2 : Int32)), .val (.ref b73)] [(.int (0 : Int32)), (.int (0 : Int32))]))
      have hc124 : (0 : Int32) = (0 : Int32) := (by decide)
      refine Runs.by (fun _ hr => XS.icmpNo X83.here hx rfl (hb hby at_124) rfl (teq hc124).2 hr) ?_
      show Runs p e below _ (T83.setTop (mkF m 127 #[.val (.int p0), .val (.int p1), .val (.ref b1), .val (.ref b5), .val (.ref b9), .val (.ref b13), .val (.ref b17), .val (.ref b21), .val (.int (1 : Int32)), .val (.int (2 : Int32)), .val (.ref b73)] []))
      refine Runs.by (fun _ hr => XS.iconst X83.here hx rfl (hb hby at_127) hr) ?_
      show Runs p e below _ (T83.setTop (mkF m 128 #[.val (.int p0), .val (.int p1), .val (.ref b1), .val (.ref b5), .val (.ref b9), .val (.ref b13), .val (.ref b17), .val (.ref b21), .val (.int (1 : Int32)), .val (.int (2 : Int32)), .val (.ref b73)] [(.int (1 : Int32))]))
      refine Runs.by (fun _ hr => XS.goto X83.here hx rfl (pc0 := 128) (pc' := 132) rfl (hb hby at_128) (by decide) (by decide) hr) ?_
      show Runs p e below _ (T83.setTop (mkF m 132 #[.val (.int p0), .val (.int p1), .val (.ref b1), .val (.ref b5), .val (.ref b9), .val (.ref b13), .val (.ref b17), .val (.ref b21), .val (.int (1 : Int32)), .val (.int (2 : Int32)), .val (.ref b73)] [(.int (1 : Int32))]))
      refine Runs.ret X83 hx hrt hlk (Or.inl ⟨rfl, by simp, _, rfl⟩) (by rfl) (hb hby at_132) (by decide) (by decide) ?_
      rw [eq83]
      exact ⟨rfl, N83⟩
    · skip
      show Runs p e below _ (T76.setTop (mkF m 107 #[.val (.int p0), .val (.int p1), .val (.ref b1), .val (.ref b5), .val (.ref b9), .val (.ref b13), .val (.ref b17), .val (.ref b21), .val (.int (2 : Int32)), .val (.int (2 : Int32)), .val (.ref b73)] []))
      refine Runs.by (fun _ hr => XS.aload X76.here hx rfl (hb hby at_107) rfl rfl hr) ?_
      show Runs p e below _ (T76.setTop (mkF m 109 #[.val (.int p0), .val (.int p1), .val (.ref b1), .val (.ref b5), .val (.ref b9), .val (.ref b13), .val (.ref b17), .val (.ref b21), .val (.int (2 : Int32)), .val (.int (2 : Int32)), .val (.ref b73)] [(.ref b21)]))
      refine Runs.by (fun _ hr => XS.iload X76.here hx rfl (hb hby at_109) rfl  hr) ?_
      show Runs p e below _ (T76.setTop (mkF m 111 #[.val (.int p0), .val (.int p1), .val (.ref b1), .val (.ref b5), .val (.ref b9), .val (.ref b13), .val (.ref b17), .val (.ref b21), .val (.int (2 : Int32)), .val (.int (2 : Int32)), .val (.ref b73)] [(.int (2 : Int32)), (.ref b21)]))
      obtain ⟨cl84, Ar84, -, S84, N84', H84, -⟩ := id ((V31.ext E73).keep Kq76 (ninS ne_b21_b73 nin0))
      have hin84 : ¬ ((2 : Int32) < 0 ∨ cl84.slots.size ≤ ((2 : Int32)).toNatClampNeg) := inb_of S84 ⟨by decide, by decide⟩
      have hat84 := H84.at hin84 (v := (.ref b9)) rfl
      refine Runs.by (fun t hr => X76.aaload hx (j := (2 : Int32)) (v := (.ref b9)) (by exact Ar84.1) (State.isArrayOf_alike hZ.alike Ar84.2.1) rfl Ar84.2.2 hin84 hat84 (g := (mkF m 111 #[.val (.int p0), .val (.int p1), .val (.ref b1), .val (.ref b5), .val (.ref b9), .val (.ref b13), .val (.ref b17), .val (.ref b21), .val (.int (2 : Int32)), .val (.int (2 : Int32)), .val (.ref b73)] [(.int (2 : Int32)), (.ref b21)])) rfl rfl (hb hby at_111) t hr) ?_
      show Runs p e below _ (T76.setTop (mkF m 112 #[.val (.int p0), .val (.int p1), .val (.ref b1), .val (.ref b5), .val (.ref b9), .val (.ref b13), .val (.ref b17), .val (.ref b21), .val (.int (2 : Int32)), .val (.int (2 : Int32)), .val (.ref b73)] [(.ref b9)]))
      refine Runs.by (fun _ hr => XS.aload X76.here hx rfl (hb hby at_112) rfl rfl hr) ?_
      show Runs p e below _ (T76.setTop (mkF m 114 #[.val (.int p0), .val (.int p1), .val (.ref b1), .val (.ref b5), .val (.ref b9), .val (.ref b13), .val (.ref b17), .val (.ref b21), .val (.int (2 : Int32)), .val (.int (2 : Int32)), .val (.ref b73)] [(.ref b73), (.ref b9)]))
      obtain ⟨cq85, kq85, q85a, q85b, q85c⟩ := isOf hZ rfl ((((((((((((f11_0.ext E13).keep Kq15).ext E17).keep Kq19).ext E21).wr W23).wr W25).wr W27).wr W29).wr W31).ext E73).keep Kq76)
      obtain ⟨_, _, ⟨T85, L85, k85, n85⟩, -, X85, ⟨Lc85, hQ85, l85, y85, z85⟩, st85⟩ := X76.virtualBack hx (y := (⟨"com/example/prorata/prorata/request/Form", "has", "(Lcom/example/prorata/prorata/request/Form$Field;)Z"⟩ : MethodName)) (z := (⟨"com/example/prorata/prorata/request/Form", "has", "(Lcom/example/prorata/prorata/request/Form$Field;)Z"⟩ : MethodName)) hown (mvT hZ (hw _ (List.mem_of_getElem? (i := 54) rfl))) (mvT hZ (hw _ (List.mem_of_getElem? (i := 55) rfl))) (notFace_of_selects (args := #[]) (mvT hZ (hw _ (List.mem_of_getElem? (i := 57) rfl)))) (mvT hZ (hw _ (List.mem_of_getElem? (i := 57) rfl))) (mvT hZ (hw _ (List.mem_of_getElem? (i := 56) rfl))) (by decide) (backOf (W := 0) (rm8_3 l Z a0 hw [] b9 b73 b9 b5 b1 T76.heap n0 (Nat.le_trans Z0 K77.1) f76_0 f76_1 ((((((((((((f11_0.ext E13).keep Kq15).ext E17).keep Kq19).ext E21).wr W23).wr W25).wr W27).wr W29).wr W31).ext E73).keep Kq76) ((((((((((((f11_1.ext E13).keep Kq15 (ninS ne_b9_b13 nin0)).ext E17).keep Kq19 (ninS ne_b9_b17 nin0)).ext E21).other W23 (Or.inl ne_b9_b21)).other W25 (Or.inl ne_b9_b21)).other W27 (Or.inl ne_b9_b21)).other W29 (Or.inl ne_b9_b21)).other W31 (Or.inl ne_b9_b21)).ext E73).keep Kq76 (ninS ne_b9_b73 nin0)) ((((((((((((((f7_0.ext E9).keep Kq11).ext E13).keep Kq15).ext E17).keep Kq19).ext E21).wr W23).wr W25).wr W27).wr W29).wr W31).ext E73).keep Kq76) ((((((((((((((f7_1.ext E9).keep Kq11 (ninS ne_b5_b9 nin0)).ext E13).keep Kq15 (ninS ne_b5_b13 nin0)).ext E17).keep Kq19 (ninS ne_b5_b17 nin0)).ext E21).other W23 (Or.inl ne_b5_b21)).other W25 (Or.inl ne_b5_b21)).other W27 (Or.inl ne_b5_b21)).other W29 (Or.inl ne_b5_b21)).other W31 (Or.inl ne_b5_b21)).ext E73).keep Kq76 (ninS ne_b5_b73 nin0)) ((((((((((((((((f3_0.ext E5).keep Kq7).ext E9).keep Kq11).ext E13).keep Kq15).ext E17).keep Kq19).ext E21).wr W23).wr W25).wr W27).wr W29).wr W31).ext E73).keep Kq76) ((((((((((((((((f3_1.ext E5).keep Kq7 (ninS ne_b1_b5 nin0)).ext E9).keep Kq11 (ninS ne_b1_b9 nin0)).ext E13).keep Kq15 (ninS ne_b1_b13 nin0)).ext E17).keep Kq19 (ninS ne_b1_b17 nin0)).ext E21).other W23 (Or.inl ne_b1_b21)).other W25 (Or.inl ne_b1_b21)).other W27 (Or.inl ne_b1_b21)).other W29 (Or.inl ne_b1_b21)).other W31 (Or.inl ne_b1_b21)).ext E73).keep Kq76 (ninS ne_b1_b73 nin0))) hZ (hw _ (List.mem_of_getElem? (i := 58) rfl)) (hw _ (List.mem_of_getElem? (i := 2) rfl)) (by decide) (by decide)) q85a q85c (g := (mkF m 114 #[.val (.int p0), .val (.int p1), .val (.ref b1), .val (.ref b5), .val (.ref b9), .val (.ref b13), .val (.ref b17), .val (.ref b21), .val (.int (2 : Int32)), .val (.int (2 : Int32)), .val (.ref b73)] [(.ref b73), (.ref b9)])) rfl (by rw [hml]; rfl) (Steps.refl _) (argsL := [(.ref b73)]) (rest := []) (lenOf pd_3 rfl) rfl (by show 2 * 0 + _ ≤ _; exact Nat.le_of_eq rfl) (hb hby at_114) (fun _ _ => ⟨rfl, rfl, (by decide : 12 + 0 ≤ _), (by decide : 58 + 0 ≤ _)⟩)
      dsimp only [Pt.U, Pt.locs, Pt.cells, Pt.slots] at X85 l85 y85 z85 st85 hQ85
      subst l85 y85 z85
      obtain ⟨rfl, Nq85, eq85⟩ := hQ85
      have N85 := Fr.app N76 Nq85
      refine Runs.by (fun _ hr => st85.trans hr) ?_
      rw [show own_has [b9, b5, b1] b9 = (1 : Int32) from by simp [own_has, ((Ne.symm ne_b5_b9) : ¬ b9 = b5), ((Ne.symm ne_b1_b9) : ¬ b9 = b1)]]
      show Runs p e below _ (T85.setTop (mkF m 117 #[.val (.int p0), .val (.int p1), .val (.ref b1), .val (.ref b5), .val (.ref b9), .val (.ref b13), .val (.ref b17), .val (.ref b21), .val (.int (2 : Int32)), .val (.int (2 : Int32)), .val (.ref b73)] [(.int (1 : Int32))]))
      refine Runs.by (fun _ hr => XS.iload X85.here hx rfl (hb hby at_117) rfl  hr) ?_
      show Runs p e below _ (T85.setTop (mkF m 119 #[.val (.int p0), .val (.int p1), .val (.ref b1), .val (.ref b5), .val (.ref b9), .val (.ref b13), .val (.ref b17), .val (.ref b21), .val (.int (2 : Int32)), .val (.int (2 : Int32)), .val (.ref b73)] [(.int (2 : Int32)), (.int (1 : Int32))]))
      refine Runs.by (fun _ hr => XS.iload X85.here hx rfl (hb hby at_119) rfl  hr) ?_
      show Runs p e below _ (T85.setTop (mkF m 121 #[.val (.int p0), .val (.int p1), .val (.ref b1), .val (.ref b5), .val (.ref b9), .val (.ref b13), .val (.ref b17), .val (.ref b21), .val (.int (2 : Int32)), .val (.int (2 : Int32)), .val (.ref b73)] [(.int (2 : Int32)), (.int (2 : Int32)), (.int (1 : Int32))]))
      obtain ⟨_, _, ⟨T86, L86, k86, n86⟩, -, X86, ⟨Lc86, hQ86, l86, y86, z86⟩, st86⟩ := Jvm.LawKit.callS X85 hx (y := (⟨"com/example/prorata/prorata/request/FormHasPinLaw", "reaches", "(II)Z"⟩ : MethodName)) hown (mvT hZ (hw _ (List.mem_of_getElem? (i := 64) rfl))) (mvT hZ (hw _ (List.mem_of_getElem? (i := 65) rfl))) (mvT hZ (hw _ (List.mem_of_getElem? (i := 66) rfl))) (mvT hZ (hw _ (List.mem_of_getElem? (i := 67) rfl))) (by decide) (backOf (W := 1) (rm10 l Z a0 hw [] (2 : Int32) (2 : Int32)  T76.heap n0 (Nat.le_trans Z0 K77.1) ) hZ (hw _ (List.mem_of_getElem? (i := 67) rfl)) (hw _ (List.mem_of_getElem? (i := 66) rfl)) (by decide) (by decide)) (g := (mkF m 121 #[.val (.int p0), .val (.int p1), .val (.ref b1), .val (.ref b5), .val (.ref b9), .val (.ref b13), .val (.ref b17), .val (.ref b21), .val (.int (2 : Int32)), .val (.int (2 : Int32)), .val (.ref b73)] [(.int (2 : Int32)), (.int (2 : Int32)), (.int (1 : Int32))])) rfl (by rw [hml]; rfl) (argsL := [(.int (2 : Int32)), (.int (2 : Int32))]) (rest := [(.int (1 : Int32))]) (lenOf pd_5 rfl) rfl (by show 2 * 0 + _ ≤ _; exact Nat.le_of_eq rfl) (hb hby at_121) (fun _ _ => ⟨rfl, eq85, (by decide : 12 + 0 ≤ _), (by decide : 58 + 0 ≤ _)⟩)
      dsimp only [Pt.U, Pt.locs, Pt.cells, Pt.slots] at X86 l86 y86 z86 st86 hQ86
      subst l86 y86 z86
      obtain ⟨rfl, Nq86, eq86⟩ := hQ86
      have N86 := Fr.app N85 Nq86
      refine Runs.by (fun t hr => st86 t hr) ?_
      rw [show own_reach (2 : Int32) (2 : Int32) = (1 : Int32) from by decide]
      show Runs p e below _ (T86.setTop (mkF m 124 #[.val (.int p0), .val (.int p1), .val (.ref b1), .val (.ref b5), .val (.ref b9), .val (.ref b13), .val (.ref b17), .val (.ref b21), .val (.int (2 : Int32)), .val (.int (2 : Int32)), .val (.ref b73)] [(.int (1 : Int32)), (.int (1 : Int32))]))
      have hc124 : (1 : Int32) = (1 : Int32) := (by decide)
      refine Runs.by (fun _ hr => XS.icmpNo X86.here hx rfl (hb hby at_124) rfl (teq hc124).2 hr) ?_
      show Runs p e below _ (T86.setTop (mkF m 127 #[.val (.int p0), .val (.int p1), .val (.ref b1), .val (.ref b5), .val (.ref b9), .val (.ref b13), .val (.ref b17), .val (.ref b21), .val (.int (2 : Int32)), .val (.int (2 : Int32)), .val (.ref b73)] []))
      refine Runs.by (fun _ hr => XS.iconst X86.here hx rfl (hb hby at_127) hr) ?_
      show Runs p e below _ (T86.setTop (mkF m 128 #[.val (.int p0), .val (.int p1), .val (.ref b1), .val (.ref b5), .val (.ref b9), .val (.ref b13), .val (.ref b17), .val (.ref b21), .val (.int (2 : Int32)), .val (.int (2 : Int32)), .val (.ref b73)] [(.int (1 : Int32))]))
      refine Runs.by (fun _ hr => XS.goto X86.here hx rfl (pc0 := 128) (pc' := 132) rfl (hb hby at_128) (by decide) (by decide) hr) ?_
      show Runs p e below _ (T86.setTop (mkF m 132 #[.val (.int p0), .val (.int p1), .val (.ref b1), .val (.ref b5), .val (.ref b9), .val (.ref b13), .val (.ref b17), .val (.ref b21), .val (.int (2 : Int32)), .val (.int (2 : Int32)), .val (.ref b73)] [(.int (1 : Int32))]))
      refine Runs.ret X86 hx hrt hlk (Or.inl ⟨rfl, by simp, _, rfl⟩) (by rfl) (hb hby at_132) (by decide) (by decide) ?_
      rw [eq86]
      exact ⟨rfl, N86⟩
    · skip
      show Runs p e below _ (T76.setTop (mkF m 107 #[.val (.int p0), .val (.int p1), .val (.ref b1), .val (.ref b5), .val (.ref b9), .val (.ref b13), .val (.ref b17), .val (.ref b21), .val (.int (3 : Int32)), .val (.int (2 : Int32)), .val (.ref b73)] []))
      refine Runs.by (fun _ hr => XS.aload X76.here hx rfl (hb hby at_107) rfl rfl hr) ?_
      show Runs p e below _ (T76.setTop (mkF m 109 #[.val (.int p0), .val (.int p1), .val (.ref b1), .val (.ref b5), .val (.ref b9), .val (.ref b13), .val (.ref b17), .val (.ref b21), .val (.int (3 : Int32)), .val (.int (2 : Int32)), .val (.ref b73)] [(.ref b21)]))
      refine Runs.by (fun _ hr => XS.iload X76.here hx rfl (hb hby at_109) rfl  hr) ?_
      show Runs p e below _ (T76.setTop (mkF m 111 #[.val (.int p0), .val (.int p1), .val (.ref b1), .val (.ref b5), .val (.ref b9), .val (.ref b13), .val (.ref b17), .val (.ref b21), .val (.int (3 : Int32)), .val (.int (2 : Int32)), .val (.ref b73)] [(.int (3 : Int32)), (.ref b21)]))
      obtain ⟨cl87, Ar87, -, S87, N87', H87, -⟩ := id ((V31.ext E73).keep Kq76 (ninS ne_b21_b73 nin0))
      have hin87 : ¬ ((3 : Int32) < 0 ∨ cl87.slots.size ≤ ((3 : Int32)).toNatClampNeg) := inb_of S87 ⟨by decide, by decide⟩
      have hat87 := H87.at hin87 (v := (.ref b13)) rfl
      refine Runs.by (fun t hr => X76.aaload hx (j := (3 : Int32)) (v := (.ref b13)) (by exact Ar87.1) (State.isArrayOf_alike hZ.alike Ar87.2.1) rfl Ar87.2.2 hin87 hat87 (g := (mkF m 111 #[.val (.int p0), .val (.int p1), .val (.ref b1), .val (.ref b5), .val (.ref b9), .val (.ref b13), .val (.ref b17), .val (.ref b21), .val (.int (3 : Int32)), .val (.int (2 : Int32)), .val (.ref b73)] [(.int (3 : Int32)), (.ref b21)])) rfl rfl (hb hby at_111) t hr) ?_
      show Runs p e below _ (T76.setTop (mkF m 112 #[.val (.int p0), .val (.int p1), .val (.ref b1), .val (.ref b5), .val (.ref b9), .val (.ref b13), .val (.ref b17), .val (.ref b21), .val (.int (3 : Int32)), .val (.int (2 : Int32)), .val (.ref b73)] [(.ref b13)]))
      refine Runs.by (fun _ hr => XS.aload X76.here hx rfl (hb hby at_112) rfl rfl hr) ?_
      show Runs p e below _ (T76.setTop (mkF m 114 #[.val (.int p0), .val (.int p1), .val (.ref b1), .val (.ref b5), .val (.ref b9), .val (.ref b13), .val (.ref b17), .val (.ref b21), .val (.int (3 : Int32)), .val (.int (2 : Int32)), .val (.ref b73)] [(.ref b73), (.ref b13)]))
      obtain ⟨cq88, kq88, q88a, q88b, q88c⟩ := isOf hZ rfl ((((((((((f15_0.ext E17).keep Kq19).ext E21).wr W23).wr W25).wr W27).wr W29).wr W31).ext E73).keep Kq76)
      obtain ⟨_, _, ⟨T88, L88, k88, n88⟩, -, X88, ⟨Lc88, hQ88, l88, y88, z88⟩, st88⟩ := X76.virtualBack hx (y := (⟨"com/example/prorata/prorata/request/Form", "has", "(Lcom/example/prorata/prorata/request/Form$Field;)Z"⟩ : MethodName)) (z := (⟨"com/example/prorata/prorata/request/Form", "has", "(Lcom/example/prorata/prorata/request/Form$Field;)Z"⟩ : MethodName)) hown (mvT hZ (hw _ (List.mem_of_getElem? (i := 54) rfl))) (mvT hZ (hw _ (List.mem_of_getElem? (i := 55) rfl))) (notFace_of_selects (args := #[]) (mvT hZ (hw _ (List.mem_of_getElem? (i := 57) rfl)))) (mvT hZ (hw _ (List.mem_of_getElem? (i := 57) rfl))) (mvT hZ (hw _ (List.mem_of_getElem? (i := 56) rfl))) (by decide) (backOf (W := 0) (rm8_2 l Z a0 hw [] b13 b73 b9 b1 T76.heap n0 (Nat.le_trans Z0 K77.1) f76_0 f76_1 ((((((((((f15_0.ext E17).keep Kq19).ext E21).wr W23).wr W25).wr W27).wr W29).wr W31).ext E73).keep Kq76) ((((((((((f15_1.ext E17).keep Kq19 (ninS ne_b13_b17 nin0)).ext E21).other W23 (Or.inl ne_b13_b21)).other W25 (Or.inl ne_b13_b21)).other W27 (Or.inl ne_b13_b21)).other W29 (Or.inl ne_b13_b21)).other W31 (Or.inl ne_b13_b21)).ext E73).keep Kq76 (ninS ne_b13_b73 nin0)) ((((((((((((((((f3_0.ext E5).keep Kq7).ext E9).keep Kq11).ext E13).keep Kq15).ext E17).keep Kq19).ext E21).wr W23).wr W25).wr W27).wr W29).wr W31).ext E73).keep Kq76) ((((((((((((((((f3_1.ext E5).keep Kq7 (ninS ne_b1_b5 nin0)).ext E9).keep Kq11 (ninS ne_b1_b9 nin0)).ext E13).keep Kq15 (ninS ne_b1_b13 nin0)).ext E17).keep Kq19 (ninS ne_b1_b17 nin0)).ext E21).other W23 (Or.inl ne_b1_b21)).other W25 (Or.inl ne_b1_b21)).other W27 (Or.inl ne_b1_b21)).other W29 (Or.inl ne_b1_b21)).other W31 (Or.inl ne_b1_b21)).ext E73).keep Kq76 (ninS ne_b1_b73 nin0))) hZ (hw _ (List.mem_of_getElem? (i := 58) rfl)) (hw _ (List.mem_of_getElem? (i := 2) rfl)) (by decide) (by decide)) q88a q88c (g := (mkF m 114 #[.val (.int p0), .val (.int p1), .val (.ref b1), .val (.ref b5), .val (.ref b9), .val (.ref b13), .val (.ref b17), .val (.ref b21), .val (.int (3 : Int32)), .val (.int (2 : Int32)), .val (.ref b73)] [(.ref b73), (.ref b13)])) rfl (by rw [hml]; rfl) (Steps.refl _) (argsL := [(.ref b73)]) (rest := []) (lenOf pd_3 rfl) rfl (by show 2 * 0 + _ ≤ _; exact Nat.le_of_eq rfl) (hb hby at_114) (fun _ _ => ⟨rfl, rfl, (by decide : 12 + 0 ≤ _), (by decide : 58 + 0 ≤ _)⟩)
      dsimp only [Pt.U, Pt.locs, Pt.cells, Pt.slots] at X88 l88 y88 z88 st88 hQ88
      subst l88 y88 z88
      obtain ⟨rfl, Nq88, eq88⟩ := hQ88
      have N88 := Fr.app N76 Nq88
      refine Runs.by (fun _ hr => st88.trans hr) ?_
      rw [show own_has [b13, b1] b9 = (0 : Int32) from by simp [own_has, (ne_b9_b13 : ¬ b9 = b13), ((Ne.symm ne_b1_b9) : ¬ b9 = b1)]]
      show Runs p e below _ (T88.setTop (mkF m 117 #[.val (.int p0), .val (.int p1), .val (.ref b1), .val (.ref b5), .val (.ref b9), .val (.ref b13), .val (.ref b17), .val (.ref b21), .val (.int (3 : Int32)), .val (.int (2 : Int32)), .val (.ref b73)] [(.int (0 : Int32))]))
      refine Runs.by (fun _ hr => XS.iload X88.here hx rfl (hb hby at_117) rfl  hr) ?_
      show Runs p e below _ (T88.setTop (mkF m 119 #[.val (.int p0), .val (.int p1), .val (.ref b1), .val (.ref b5), .val (.ref b9), .val (.ref b13), .val (.ref b17), .val (.ref b21), .val (.int (3 : Int32)), .val (.int (2 : Int32)), .val (.ref b73)] [(.int (3 : Int32)), (.int (0 : Int32))]))
      refine Runs.by (fun _ hr => XS.iload X88.here hx rfl (hb hby at_119) rfl  hr) ?_
      show Runs p e below _ (T88.setTop (mkF m 121 #[.val (.int p0), .val (.int p1), .val (.ref b1), .val (.ref b5), .val (.ref b9), .val (.ref b13), .val (.ref b17), .val (.ref b21), .val (.int (3 : Int32)), .val (.int (2 : Int32)), .val (.ref b73)] [(.int (2 : Int32)), (.int (3 : Int32)), (.int (0 : Int32))]))
      obtain ⟨_, _, ⟨T89, L89, k89, n89⟩, -, X89, ⟨Lc89, hQ89, l89, y89, z89⟩, st89⟩ := Jvm.LawKit.callS X88 hx (y := (⟨"com/example/prorata/prorata/request/FormHasPinLaw", "reaches", "(II)Z"⟩ : MethodName)) hown (mvT hZ (hw _ (List.mem_of_getElem? (i := 64) rfl))) (mvT hZ (hw _ (List.mem_of_getElem? (i := 65) rfl))) (mvT hZ (hw _ (List.mem_of_getElem? (i := 66) rfl))) (mvT hZ (hw _ (List.mem_of_getElem? (i := 67) rfl))) (by decide) (backOf (W := 1) (rm10 l Z a0 hw [] (3 : Int32) (2 : Int32)  T76.heap n0 (Nat.le_trans Z0 K77.1) ) hZ (hw _ (List.mem_of_getElem? (i := 67) rfl)) (hw _ (List.mem_of_getElem? (i := 66) rfl)) (by decide) (by decide)) (g := (mkF m 121 #[.val (.int p0), .val (.int p1), .val (.ref b1), .val (.ref b5), .val (.ref b9), .val (.ref b13), .val (.ref b17), .val (.ref b21), .val (.int (3 : Int32)), .val (.int (2 : Int32)), .val (.ref b73)] [(.int (2 : Int32)), (.int (3 : Int32)), (.int (0 : Int32))])) rfl (by rw [hml]; rfl) (argsL := [(.int (3 : Int32)), (.int (2 : Int32))]) (rest := [(.int (0 : Int32))]) (lenOf pd_5 rfl) rfl (by show 2 * 0 + _ ≤ _; exact Nat.le_of_eq rfl) (hb hby at_121) (fun _ _ => ⟨rfl, eq88, (by decide : 12 + 0 ≤ _), (by decide : 58 + 0 ≤ _)⟩)
      dsimp only [Pt.U, Pt.locs, Pt.cells, Pt.slots] at X89 l89 y89 z89 st89 hQ89
      subst l89 y89 z89
      obtain ⟨rfl, Nq89, eq89⟩ := hQ89
      have N89 := Fr.app N88 Nq89
      refine Runs.by (fun t hr => st89 t hr) ?_
      rw [show own_reach (3 : Int32) (2 : Int32) = (0 : Int32) from by decide]
      show Runs p e below _ (T89.setTop (mkF m 124 #[.val (.int p0), .val (.int p1), .val (.ref b1), .val (.ref b5), .val (.ref b9), .val (.ref b13), .val (.ref b17), .val (.ref b21), .val (.int (3 : Int32)), .val (.int (2 : Int32)), .val (.ref b73)] [(.int (0 : Int32)), (.int (0 : Int32))]))
      have hc124 : (0 : Int32) = (0 : Int32) := (by decide)
      refine Runs.by (fun _ hr => XS.icmpNo X89.here hx rfl (hb hby at_124) rfl (teq hc124).2 hr) ?_
      show Runs p e below _ (T89.setTop (mkF m 127 #[.val (.int p0), .val (.int p1), .val (.ref b1), .val (.ref b5), .val (.ref b9), .val (.ref b13), .val (.ref b17), .val (.ref b21), .val (.int (3 : Int32)), .val (.int (2 : Int32)), .val (.ref b73)] []))
      refine Runs.by (fun _ hr => XS.iconst X89.here hx rfl (hb hby at_127) hr) ?_
      show Runs p e below _ (T89.setTop (mkF m 128 #[.val (.int p0), .val (.int p1), .val (.ref b1), .val (.ref b5), .val (.ref b9), .val (.ref b13), .val (.ref b17), .val (.ref b21), .val (.int (3 : Int32)), .val (.int (2 : Int32)), .val (.ref b73)] [(.int (1 : Int32))]))
      refine Runs.by (fun _ hr => XS.goto X89.here hx rfl (pc0 := 128) (pc' := 132) rfl (hb hby at_128) (by decide) (by decide) hr) ?_
      show Runs p e below _ (T89.setTop (mkF m 132 #[.val (.int p0), .val (.int p1), .val (.ref b1), .val (.ref b5), .val (.ref b9), .val (.ref b13), .val (.ref b17), .val (.ref b21), .val (.int (3 : Int32)), .val (.int (2 : Int32)), .val (.ref b73)] [(.int (1 : Int32))]))
      refine Runs.ret X89 hx hrt hlk (Or.inl ⟨rfl, by simp, _, rfl⟩) (by rfl) (hb hby at_132) (by decide) (by decide) ?_
      rw [eq89]
      exact ⟨rfl, N89⟩
    · skip
      show Runs p e below _ (T76.setTop (mkF m 107 #[.val (.int p0), .val (.int p1), .val (.ref b1), .val (.ref b5), .val (.ref b9), .val (.ref b13), .val (.ref b17), .val (.ref b21), .val (.int (4 : Int32)), .val (.int (2 : Int32)), .val (.ref b73)] []))
      refine Runs.by (fun _ hr => XS.aload X76.here hx rfl (hb hby at_107) rfl rfl hr) ?_
      show Runs p e below _ (T76.setTop (mkF m 109 #[.val (.int p0), .val (.int p1), .val (.ref b1), .val (.ref b5), .val (.ref b9), .val (.ref b13), .val (.ref b17), .val (.ref b21), .val (.int (4 : Int32)), .val (.int (2 : Int32)), .val (.ref b73)] [(.ref b21)]))
      refine Runs.by (fun _ hr => XS.iload X76.here hx rfl (hb hby at_109) rfl  hr) ?_
      show Runs p e below _ (T76.setTop (mkF m 111 #[.val (.int p0), .val (.int p1), .val (.ref b1), .val (.ref b5), .val (.ref b9), .val (.ref b13), .val (.ref b17), .val (.ref b21), .val (.int (4 : Int32)), .val (.int (2 : Int32)), .val (.ref b73)] [(.int (4 : Int32)), (.ref b21)]))
      obtain ⟨cl90, Ar90, -, S90, N90', H90, -⟩ := id ((V31.ext E73).keep Kq76 (ninS ne_b21_b73 nin0))
      have hin90 : ¬ ((4 : Int32) < 0 ∨ cl90.slots.size ≤ ((4 : Int32)).toNatClampNeg) := inb_of S90 ⟨by decide, by decide⟩
      have hat90 := H90.at hin90 (v := (.ref b17)) rfl
      refine Runs.by (fun t hr => X76.aaload hx (j := (4 : Int32)) (v := (.ref b17)) (by exact Ar90.1) (State.isArrayOf_alike hZ.alike Ar90.2.1) rfl Ar90.2.2 hin90 hat90 (g := (mkF m 111 #[.val (.int p0), .val (.int p1), .val (.ref b1), .val (.ref b5), .val (.ref b9), .val (.ref b13), .val (.ref b17), .val (.ref b21), .val (.int (4 : Int32)), .val (.int (2 : Int32)), .val (.ref b73)] [(.int (4 : Int32)), (.ref b21)])) rfl rfl (hb hby at_111) t hr) ?_
      show Runs p e below _ (T76.setTop (mkF m 112 #[.val (.int p0), .val (.int p1), .val (.ref b1), .val (.ref b5), .val (.ref b9), .val (.ref b13), .val (.ref b17), .val (.ref b21), .val (.int (4 : Int32)), .val (.int (2 : Int32)), .val (.ref b73)] [(.ref b17)]))
      refine Runs.by (fun _ hr => XS.aload X76.here hx rfl (hb hby at_112) rfl rfl hr) ?_
      show Runs p e below _ (T76.setTop (mkF m 114 #[.val (.int p0), .val (.int p1), .val (.ref b1), .val (.ref b5), .val (.ref b9), .val (.ref b13), .val (.ref b17), .val (.ref b21), .val (.int (4 : Int32)), .val (.int (2 : Int32)), .val (.ref b73)] [(.ref b73), (.ref b17)]))
      obtain ⟨cq91, kq91, q91a, q91b, q91c⟩ := isOf hZ rfl ((((((((f19_0.ext E21).wr W23).wr W25).wr W27).wr W29).wr W31).ext E73).keep Kq76)
      obtain ⟨_, _, ⟨T91, L91, k91, n91⟩, -, X91, ⟨Lc91, hQ91, l91, y91, z91⟩, st91⟩ := X76.virtualBack hx (y := (⟨"com/example/prorata/prorata/request/Form", "has", "(Lcom/example/prorata/prorata/request/Form$Field;)Z"⟩ : MethodName)) (z := (⟨"com/example/prorata/prorata/request/Form", "has", "(Lcom/example/prorata/prorata/request/Form$Field;)Z"⟩ : MethodName)) hown (mvT hZ (hw _ (List.mem_of_getElem? (i := 54) rfl))) (mvT hZ (hw _ (List.mem_of_getElem? (i := 55) rfl))) (notFace_of_selects (args := #[]) (mvT hZ (hw _ (List.mem_of_getElem? (i := 57) rfl)))) (mvT hZ (hw _ (List.mem_of_getElem? (i := 57) rfl))) (mvT hZ (hw _ (List.mem_of_getElem? (i := 56) rfl))) (by decide) (backOf (W := 0) (rm8_1 l Z a0 hw [] b17 b73 b9 T76.heap n0 (Nat.le_trans Z0 K77.1) f76_0 f76_1 ((((((((f19_0.ext E21).wr W23).wr W25).wr W27).wr W29).wr W31).ext E73).keep Kq76) ((((((((f19_1.ext E21).other W23 (Or.inl ne_b17_b21)).other W25 (Or.inl ne_b17_b21)).other W27 (Or.inl ne_b17_b21)).other W29 (Or.inl ne_b17_b21)).other W31 (Or.inl ne_b17_b21)).ext E73).keep Kq76 (ninS ne_b17_b73 nin0))) hZ (hw _ (List.mem_of_getElem? (i := 58) rfl)) (hw _ (List.mem_of_getElem? (i := 2) rfl)) (by decide) (by decide)) q91a q91c (g := (mkF m 114 #[.val (.int p0), .val (.int p1), .val (.ref b1), .val (.ref b5), .val (.ref b9), .val (.ref b13), .val (.ref b17), .val (.ref b21), .val (.int (4 : Int32)), .val (.int (2 : Int32)), .val (.ref b73)] [(.ref b73), (.ref b17)])) rfl (by rw [hml]; rfl) (Steps.refl _) (argsL := [(.ref b73)]) (rest := []) (lenOf pd_3 rfl) rfl (by show 2 * 0 + _ ≤ _; exact Nat.le_of_eq rfl) (hb hby at_114) (fun _ _ => ⟨rfl, rfl, (by decide : 12 + 0 ≤ _), (by decide : 58 + 0 ≤ _)⟩)
      dsimp only [Pt.U, Pt.locs, Pt.cells, Pt.slots] at X91 l91 y91 z91 st91 hQ91
      subst l91 y91 z91
      obtain ⟨rfl, Nq91, eq91⟩ := hQ91
      have N91 := Fr.app N76 Nq91
      refine Runs.by (fun _ hr => st91.trans hr) ?_
      rw [show own_has [b17] b9 = (0 : Int32) from by simp [own_has, (ne_b9_b17 : ¬ b9 = b17)]]
      show Runs p e below _ (T91.setTop (mkF m 117 #[.val (.int p0), .val (.int p1), .val (.ref b1), .val (.ref b5), .val (.ref b9), .val (.ref b13), .val (.ref b17), .val (.ref b21), .val (.int (4 : Int32)), .val (.int (2 : Int32)), .val (.ref b73)] [(.int (0 : Int32))]))
      refine Runs.by (fun _ hr => XS.iload X91.here hx rfl (hb hby at_117) rfl  hr) ?_
      show Runs p e below _ (T91.setTop (mkF m 119 #[.val (.int p0), .val (.int p1), .val (.ref b1), .val (.ref b5), .val (.ref b9), .val (.ref b13), .val (.ref b17), .val (.ref b21), .val (.int (4 : Int32)), .val (.int (2 : Int32)), .val (.ref b73)] [(.int (4 : Int32)), (.int (0 : Int32))]))
      refine Runs.by (fun _ hr => XS.iload X91.here hx rfl (hb hby at_119) rfl  hr) ?_
      show Runs p e below _ (T91.setTop (mkF m 121 #[.val (.int p0), .val (.int p1), .val (.ref b1), .val (.ref b5), .val (.ref b9), .val (.ref b13), .val (.ref b17), .val (.ref b21), .val (.int (4 : Int32)), .val (.int (2 : Int32)), .val (.ref b73)] [(.int (2 : Int32)), (.int (4 : Int32)), (.int (0 : Int32))]))
      obtain ⟨_, _, ⟨T92, L92, k92, n92⟩, -, X92, ⟨Lc92, hQ92, l92, y92, z92⟩, st92⟩ := Jvm.LawKit.callS X91 hx (y := (⟨"com/example/prorata/prorata/request/FormHasPinLaw", "reaches", "(II)Z"⟩ : MethodName)) hown (mvT hZ (hw _ (List.mem_of_getElem? (i := 64) rfl))) (mvT hZ (hw _ (List.mem_of_getElem? (i := 65) rfl))) (mvT hZ (hw _ (List.mem_of_getElem? (i := 66) rfl))) (mvT hZ (hw _ (List.mem_of_getElem? (i := 67) rfl))) (by decide) (backOf (W := 1) (rm10 l Z a0 hw [] (4 : Int32) (2 : Int32)  T76.heap n0 (Nat.le_trans Z0 K77.1) ) hZ (hw _ (List.mem_of_getElem? (i := 67) rfl)) (hw _ (List.mem_of_getElem? (i := 66) rfl)) (by decide) (by decide)) (g := (mkF m 121 #[.val (.int p0), .val (.int p1), .val (.ref b1), .val (.ref b5), .val (.ref b9), .val (.ref b13), .val (.ref b17), .val (.ref b21), .val (.int (4 : Int32)), .val (.int (2 : Int32)), .val (.ref b73)] [(.int (2 : Int32)), (.int (4 : Int32)), (.int (0 : Int32))])) rfl (by rw [hml]; rfl) (argsL := [(.int (4 : Int32)), (.int (2 : Int32))]) (rest := [(.int (0 : Int32))]) (lenOf pd_5 rfl) rfl (by show 2 * 0 + _ ≤ _; exact Nat.le_of_eq rfl) (hb hby at_121) (fun _ _ => ⟨rfl, eq91, (by decide : 12 + 0 ≤ _), (by decide : 58 + 0 ≤ _)⟩)
      dsimp only [Pt.U, Pt.locs, Pt.cells, Pt.slots] at X92 l92 y92 z92 st92 hQ92
      subst l92 y92 z92
      obtain ⟨rfl, Nq92, eq92⟩ := hQ92
      have N92 := Fr.app N91 Nq92
      refine Runs.by (fun t hr => st92 t hr) ?_
      rw [show own_reach (4 : Int32) (2 : Int32) = (0 : Int32) from by decide]
      show Runs p e below _ (T92.setTop (mkF m 124 #[.val (.int p0), .val (.int p1), .val (.ref b1), .val (.ref b5), .val (.ref b9), .val (.ref b13), .val (.ref b17), .val (.ref b21), .val (.int (4 : Int32)), .val (.int (2 : Int32)), .val (.ref b73)] [(.int (0 : Int32)), (.int (0 : Int32))]))
      have hc124 : (0 : Int32) = (0 : Int32) := (by decide)
      refine Runs.by (fun _ hr => XS.icmpNo X92.here hx rfl (hb hby at_124) rfl (teq hc124).2 hr) ?_
      show Runs p e below _ (T92.setTop (mkF m 127 #[.val (.int p0), .val (.int p1), .val (.ref b1), .val (.ref b5), .val (.ref b9), .val (.ref b13), .val (.ref b17), .val (.ref b21), .val (.int (4 : Int32)), .val (.int (2 : Int32)), .val (.ref b73)] []))
      refine Runs.by (fun _ hr => XS.iconst X92.here hx rfl (hb hby at_127) hr) ?_
      show Runs p e below _ (T92.setTop (mkF m 128 #[.val (.int p0), .val (.int p1), .val (.ref b1), .val (.ref b5), .val (.ref b9), .val (.ref b13), .val (.ref b17), .val (.ref b21), .val (.int (4 : Int32)), .val (.int (2 : Int32)), .val (.ref b73)] [(.int (1 : Int32))]))
      refine Runs.by (fun _ hr => XS.goto X92.here hx rfl (pc0 := 128) (pc' := 132) rfl (hb hby at_128) (by decide) (by decide) hr) ?_
      show Runs p e below _ (T92.setTop (mkF m 132 #[.val (.int p0), .val (.int p1), .val (.ref b1), .val (.ref b5), .val (.ref b9), .val (.ref b13), .val (.ref b17), .val (.ref b21), .val (.int (4 : Int32)), .val (.int (2 : Int32)), .val (.ref b73)] [(.int (1 : Int32))]))
      refine Runs.ret X92 hx hrt hlk (Or.inl ⟨rfl, by simp, _, rfl⟩) (by rfl) (hb hby at_132) (by decide) (by decide) ?_
      rw [eq92]
      exact ⟨rfl, N92⟩
  · skip
    show Runs p e below _ (T31.setTop (mkF m 91 #[.val (.int p0), .val (.int p1), .val (.ref b1), .val (.ref b5), .val (.ref b9), .val (.ref b13), .val (.ref b17), .val (.ref b21), .val (.int ((p0 &&& (2147483647 : Int32)) % (5 : Int32))), .val (.int (3 : Int32)), .unset] []))
    obtain ⟨T93, h93, X93, e93, E93, A93, D93, -, st93⟩ := newO X31 hx hZ hown (hw _ (List.mem_of_getElem? (i := 36) rfl)) (hw _ (List.mem_of_getElem? (i := 37) rfl)) (hw _ (List.mem_of_getElem? (i := 38) rfl)) e31 (g := (mkF m 91 #[.val (.int p0), .val (.int p1), .val (.ref b1), .val (.ref b5), .val (.ref b9), .val (.ref b13), .val (.ref b17), .val (.ref b21), .val (.int ((p0 &&& (2147483647 : Int32)) % (5 : Int32))), .val (.int (3 : Int32)), .unset] [])) rfl (hb hby at_91) (by decide) (by decide)
    obtain ⟨b93, gz93⟩ : ∃ z, z = h31.size := ⟨_, rfl⟩
    rw [← gz93] at A93 D93 st93
    have ne_b1_b93 : b1 ≠ b93 := Nat.ne_of_lt (Nat.lt_of_lt_of_le ((((((((((((((f3_0.ext E5).keep Kq7).ext E9).keep Kq11).ext E13).keep Kq15).ext E17).keep Kq19).ext E21).wr W23).wr W25).wr W27).wr W29).wr W31).lt (Nat.le_of_eq gz93.symm))
    have ne_b5_b93 : b5 ≠ b93 := Nat.ne_of_lt (Nat.lt_of_lt_of_le ((((((((((((f7_0.ext E9).keep Kq11).ext E13).keep Kq15).ext E17).keep Kq19).ext E21).wr W23).wr W25).wr W27).wr W29).wr W31).lt (Nat.le_of_eq gz93.symm))
    have ne_b9_b93 : b9 ≠ b93 := Nat.ne_of_lt (Nat.lt_of_lt_of_le ((((((((((f11_0.ext E13).keep Kq15).ext E17).keep Kq19).ext E21).wr W23).wr W25).wr W27).wr W29).wr W31).lt (Nat.le_of_eq gz93.symm))
    have ne_b13_b93 : b13 ≠ b93 := Nat.ne_of_lt (Nat.lt_of_lt_of_le ((((((((f15_0.ext E17).keep Kq19).ext E21).wr W23).wr W25).wr W27).wr W29).wr W31).lt (Nat.le_of_eq gz93.symm))
    have ne_b17_b93 : b17 ≠ b93 := Nat.ne_of_lt (Nat.lt_of_lt_of_le ((((((f19_0.ext E21).wr W23).wr W25).wr W27).wr W29).wr W31).lt (Nat.le_of_eq gz93.symm))
    have ne_b21_b93 : b21 ≠ b93 := Nat.ne_of_lt (Nat.lt_of_lt_of_le V31.lt (Nat.le_of_eq gz93.symm))
    have g_b93 : n0 ≤ b93 := Nat.le_trans (Nat.le_trans Z0 K32.1) (Nat.le_of_eq gz93.symm)
    have sz_b93 : h0.size ≤ b93 := Nat.le_trans K32.1 (Nat.le_of_eq gz93.symm)
    have K94 : Keep h0 h93 [] := K32.ext E93
    have F_form_b93 : Fld Z h93 b93 "com/example/prorata/prorata/request/Form$Field" "form" "Lcom/example/prorata/prorata/request/Form;" .null := D93 (Or.inr (hw _ (List.mem_of_getElem? (i := 49) rfl))) (ty := (.object "com/example/prorata/prorata/request/Form")) (by decide)
    have F_name_b93 : Fld Z h93 b93 "com/example/prorata/prorata/request/Form$Field" "name" "Ljava/lang/String;" .null := D93 (Or.inr (hw _ (List.mem_of_getElem? (i := 51) rfl))) (ty := (.object "java/lang/String")) (by decide)
    have F_holds_b93 : Fld Z h93 b93 "com/example/prorata/prorata/request/Form$Field" "holds" "Lcom/example/prorata/prorata/request/Form;" .null := D93 (Or.inr (hw _ (List.mem_of_getElem? (i := 53) rfl))) (ty := (.object "com/example/prorata/prorata/request/Form")) (by decide)
    refine Runs.by st93 ?_
    show Runs p e below _ (T93.setTop (mkF m 94 #[.val (.int p0), .val (.int p1), .val (.ref b1), .val (.ref b5), .val (.ref b9), .val (.ref b13), .val (.ref b17), .val (.ref b21), .val (.int ((p0 &&& (2147483647 : Int32)) % (5 : Int32))), .val (.int (3 : Int32)), .unset] [(.ref b93)]))
    refine Runs.by (fun _ hr => XS.dup X93.here hx rfl (hb hby at_94) rfl rfl hr) ?_
    show Runs p e below _ (T93.setTop (mkF m 95 #[.val (.int p0), .val (.int p1), .val (.ref b1), .val (.ref b5), .val (.ref b9), .val (.ref b13), .val (.ref b17), .val (.ref b21), .val (.int ((p0 &&& (2147483647 : Int32)) % (5 : Int32))), .val (.int (3 : Int32)), .unset] [(.ref b93), (.ref b93)]))
    refine Runs.by (fun _ hr => XS.aload X93.here hx rfl (hb hby at_95) rfl rfl hr) ?_
    show Runs p e below _ (T93.setTop (mkF m 97 #[.val (.int p0), .val (.int p1), .val (.ref b1), .val (.ref b5), .val (.ref b9), .val (.ref b13), .val (.ref b17), .val (.ref b21), .val (.int ((p0 &&& (2147483647 : Int32)) % (5 : Int32))), .val (.int (3 : Int32)), .unset] [(.ref b21), (.ref b93), (.ref b93)]))
    refine Runs.by (fun _ hr => XS.iload X93.here hx rfl (hb hby at_97) rfl  hr) ?_
    show Runs p e below _ (T93.setTop (mkF m 99 #[.val (.int p0), .val (.int p1), .val (.ref b1), .val (.ref b5), .val (.ref b9), .val (.ref b13), .val (.ref b17), .val (.ref b21), .val (.int ((p0 &&& (2147483647 : Int32)) % (5 : Int32))), .val (.int (3 : Int32)), .unset] [(.int (3 : Int32)), (.ref b21), (.ref b93), (.ref b93)]))
    obtain ⟨cl95, Ar95, -, S95, N95', H95, -⟩ := id (V31.ext E93)
    have hin95 : ¬ ((3 : Int32) < 0 ∨ cl95.slots.size ≤ ((3 : Int32)).toNatClampNeg) := inb_of S95 ⟨by decide, by decide⟩
    have hat95 := H95.at hin95 (v := (.ref b13)) rfl
    refine Runs.by (fun t hr => X93.aaload hx (j := (3 : Int32)) (v := (.ref b13)) (by rw [e93]; exact Ar95.1) (State.isArrayOf_alike hZ.alike Ar95.2.1) rfl Ar95.2.2 hin95 hat95 (g := (mkF m 99 #[.val (.int p0), .val (.int p1), .val (.ref b1), .val (.ref b5), .val (.ref b9), .val (.ref b13), .val (.ref b17), .val (.ref b21), .val (.int ((p0 &&& (2147483647 : Int32)) % (5 : Int32))), .val (.int (3 : Int32)), .unset] [(.int (3 : Int32)), (.ref b21), (.ref b93), (.ref b93)])) rfl rfl (hb hby at_99) t hr) ?_
    show Runs p e below _ (T93.setTop (mkF m 100 #[.val (.int p0), .val (.int p1), .val (.ref b1), .val (.ref b5), .val (.ref b9), .val (.ref b13), .val (.ref b17), .val (.ref b21), .val (.int ((p0 &&& (2147483647 : Int32)) % (5 : Int32))), .val (.int (3 : Int32)), .unset] [(.ref b13), (.ref b93), (.ref b93)]))
    refine Runs.by (fun _ hr => XS.aconstNull X93.here hx rfl (hb hby at_100) hr) ?_
    show Runs p e below _ (T93.setTop (mkF m 101 #[.val (.int p0), .val (.int p1), .val (.ref b1), .val (.ref b5), .val (.ref b9), .val (.ref b13), .val (.ref b17), .val (.ref b21), .val (.int ((p0 &&& (2147483647 : Int32)) % (5 : Int32))), .val (.int (3 : Int32)), .unset] [.null, (.ref b13), (.ref b93), (.ref b93)]))
    refine Runs.by (fun _ hr => XS.aconstNull X93.here hx rfl (hb hby at_101) hr) ?_
    show Runs p e below _ (T93.setTop (mkF m 102 #[.val (.int p0), .val (.int p1), .val (.ref b1), .val (.ref b5), .val (.ref b9), .val (.ref b13), .val (.ref b17), .val (.ref b21), .val (.int ((p0 &&& (2147483647 : Int32)) % (5 : Int32))), .val (.int (3 : Int32)), .unset] [.null, .null, (.ref b13), (.ref b93), (.ref b93)]))
    obtain ⟨_, _, ⟨T96, L96, k96, n96⟩, -, X96, ⟨Lc96, hQ96, l96, y96, z96⟩, st96⟩ := X93.specialBack hx (y := (⟨"com/example/prorata/prorata/request/Form$Field", "<init>", "(Lcom/example/prorata/prorata/request/Form;Ljava/lang/String;Lcom/example/prorata/prorata/request/Form;)V"⟩ : MethodName)) rfl hown (mvT hZ (hw _ (List.mem_of_getElem? (i := 39) rfl))) (mvT hZ (hw _ (List.mem_of_getElem? (i := 40) rfl))) (mvT hZ (hw _ (List.mem_of_getElem? (i := 41) rfl))) (by decide) (backOf (W := 1) (rm6 l Z a0 hw [] b93 b13  h93 n0 (Nat.le_trans Z0 K94.1) A93 F_form_b93 F_name_b93 F_holds_b93 g_b93) hZ (hw _ (List.mem_of_getElem? (i := 41) rfl)) (hw _ (List.mem_of_getElem? (i := 38) rfl)) (by decide) (by decide)) (g := (mkF m 102 #[.val (.int p0), .val (.int p1), .val (.ref b1), .val (.ref b5), .val (.ref b9), .val (.ref b13), .val (.ref b17), .val (.ref b21), .val (.int ((p0 &&& (2147483647 : Int32)) % (5 : Int32))), .val (.int (3 : Int32)), .unset] [.null, .null, (.ref b13), (.ref b93), (.ref b93)])) rfl (by rw [hml]; rfl) (Steps.refl _) (a := b93) (argsL := [(.ref b13), .null, .null]) (rest := [(.ref b93)]) (lenOf pd_4 rfl) rfl (by show 2 * 0 + _ ≤ _; exact Nat.le_of_eq rfl) (hb hby at_102) (fun _ _ => ⟨rfl, e93, (by decide : 12 + 0 ≤ _), (by decide : 58 + 0 ≤ _)⟩)
    dsimp only [Pt.U, Pt.locs, Pt.cells, Pt.slots] at X96 l96 y96 z96 st96 hQ96
    subst l96 y96 z96
    obtain ⟨rfl, Nq96, Kq96, f96_0, f96_1⟩ := hQ96
    have N96 := Fr.app N31 Nq96
    have K97 : Keep h0 T96.heap [] := Keep.trans (ws := []) K94 Kq96 (allS (Or.inr sz_b93) all0)
    refine Runs.by (fun _ hr => st96.trans hr) ?_
    show Runs p e below _ (T96.setTop (mkF m 105 #[.val (.int p0), .val (.int p1), .val (.ref b1), .val (.ref b5), .val (.ref b9), .val (.ref b13), .val (.ref b17), .val (.ref b21), .val (.int ((p0 &&& (2147483647 : Int32)) % (5 : Int32))), .val (.int (3 : Int32)), .unset] [(.ref b93)]))
    refine Runs.by (fun _ hr => XS.astore X96.here hx rfl (hb hby at_105) rfl rfl (l' := #[.val (.int p0), .val (.int p1), .val (.ref b1), .val (.ref b5), .val (.ref b9), .val (.ref b13), .val (.ref b17), .val (.ref b21), .val (.int ((p0 &&& (2147483647 : Int32)) % (5 : Int32))), .val (.int (3 : Int32)), .val (.ref b93)]) rfl hr) ?_
    have hk8 := own_mod5 p0
    generalize (p0 &&& (2147483647 : Int32)) % (5 : Int32) = kk at hk8 ⊢
    rcases hk8 with rfl | rfl | rfl | rfl | rfl
    · skip
      show Runs p e below _ (T96.setTop (mkF m 107 #[.val (.int p0), .val (.int p1), .val (.ref b1), .val (.ref b5), .val (.ref b9), .val (.ref b13), .val (.ref b17), .val (.ref b21), .val (.int (0 : Int32)), .val (.int (3 : Int32)), .val (.ref b93)] []))
      refine Runs.by (fun _ hr => XS.aload X96.here hx rfl (hb hby at_107) rfl rfl hr) ?_
      show Runs p e below _ (T96.setTop (mkF m 109 #[.val (.int p0), .val (.int p1), .val (.ref b1), .val (.ref b5), .val (.ref b9), .val (.ref b13), .val (.ref b17), .val (.ref b21), .val (.int (0 : Int32)), .val (.int (3 : Int32)), .val (.ref b93)] [(.ref b21)]))
      refine Runs.by (fun _ hr => XS.iload X96.here hx rfl (hb hby at_109) rfl  hr) ?_
      show Runs p e below _ (T96.setTop (mkF m 111 #[.val (.int p0), .val (.int p1), .val (.ref b1), .val (.ref b5), .val (.ref b9), .val (.ref b13), .val (.ref b17), .val (.ref b21), .val (.int (0 : Int32)), .val (.int (3 : Int32)), .val (.ref b93)] [(.int (0 : Int32)), (.ref b21)]))
      obtain ⟨cl98, Ar98, -, S98, N98', H98, -⟩ := id ((V31.ext E93).keep Kq96 (ninS ne_b21_b93 nin0))
      have hin98 : ¬ ((0 : Int32) < 0 ∨ cl98.slots.size ≤ ((0 : Int32)).toNatClampNeg) := inb_of S98 ⟨by decide, by decide⟩
      have hat98 := H98.at hin98 (v := (.ref b1)) rfl
      refine Runs.by (fun t hr => X96.aaload hx (j := (0 : Int32)) (v := (.ref b1)) (by exact Ar98.1) (State.isArrayOf_alike hZ.alike Ar98.2.1) rfl Ar98.2.2 hin98 hat98 (g := (mkF m 111 #[.val (.int p0), .val (.int p1), .val (.ref b1), .val (.ref b5), .val (.ref b9), .val (.ref b13), .val (.ref b17), .val (.ref b21), .val (.int (0 : Int32)), .val (.int (3 : Int32)), .val (.ref b93)] [(.int (0 : Int32)), (.ref b21)])) rfl rfl (hb hby at_111) t hr) ?_
      show Runs p e below _ (T96.setTop (mkF m 112 #[.val (.int p0), .val (.int p1), .val (.ref b1), .val (.ref b5), .val (.ref b9), .val (.ref b13), .val (.ref b17), .val (.ref b21), .val (.int (0 : Int32)), .val (.int (3 : Int32)), .val (.ref b93)] [(.ref b1)]))
      refine Runs.by (fun _ hr => XS.aload X96.here hx rfl (hb hby at_112) rfl rfl hr) ?_
      show Runs p e below _ (T96.setTop (mkF m 114 #[.val (.int p0), .val (.int p1), .val (.ref b1), .val (.ref b5), .val (.ref b9), .val (.ref b13), .val (.ref b17), .val (.ref b21), .val (.int (0 : Int32)), .val (.int (3 : Int32)), .val (.ref b93)] [(.ref b93), (.ref b1)]))
      obtain ⟨cq99, kq99, q99a, q99b, q99c⟩ := isOf hZ rfl ((((((((((((((((f3_0.ext E5).keep Kq7).ext E9).keep Kq11).ext E13).keep Kq15).ext E17).keep Kq19).ext E21).wr W23).wr W25).wr W27).wr W29).wr W31).ext E93).keep Kq96)
      obtain ⟨_, _, ⟨T99, L99, k99, n99⟩, -, X99, ⟨Lc99, hQ99, l99, y99, z99⟩, st99⟩ := X96.virtualBack hx (y := (⟨"com/example/prorata/prorata/request/Form", "has", "(Lcom/example/prorata/prorata/request/Form$Field;)Z"⟩ : MethodName)) (z := (⟨"com/example/prorata/prorata/request/Form", "has", "(Lcom/example/prorata/prorata/request/Form$Field;)Z"⟩ : MethodName)) hown (mvT hZ (hw _ (List.mem_of_getElem? (i := 54) rfl))) (mvT hZ (hw _ (List.mem_of_getElem? (i := 55) rfl))) (notFace_of_selects (args := #[]) (mvT hZ (hw _ (List.mem_of_getElem? (i := 57) rfl)))) (mvT hZ (hw _ (List.mem_of_getElem? (i := 57) rfl))) (mvT hZ (hw _ (List.mem_of_getElem? (i := 56) rfl))) (by decide) (backOf (W := 0) (rm8_1 l Z a0 hw [] b1 b93 b13 T96.heap n0 (Nat.le_trans Z0 K97.1) f96_0 f96_1 ((((((((((((((((f3_0.ext E5).keep Kq7).ext E9).keep Kq11).ext E13).keep Kq15).ext E17).keep Kq19).ext E21).wr W23).wr W25).wr W27).wr W29).wr W31).ext E93).keep Kq96) ((((((((((((((((f3_1.ext E5).keep Kq7 (ninS ne_b1_b5 nin0)).ext E9).keep Kq11 (ninS ne_b1_b9 nin0)).ext E13).keep Kq15 (ninS ne_b1_b13 nin0)).ext E17).keep Kq19 (ninS ne_b1_b17 nin0)).ext E21).other W23 (Or.inl ne_b1_b21)).other W25 (Or.inl ne_b1_b21)).other W27 (Or.inl ne_b1_b21)).other W29 (Or.inl ne_b1_b21)).other W31 (Or.inl ne_b1_b21)).ext E93).keep Kq96 (ninS ne_b1_b93 nin0))) hZ (hw _ (List.mem_of_getElem? (i := 58) rfl)) (hw _ (List.mem_of_getElem? (i := 2) rfl)) (by decide) (by decide)) q99a q99c (g := (mkF m 114 #[.val (.int p0), .val (.int p1), .val (.ref b1), .val (.ref b5), .val (.ref b9), .val (.ref b13), .val (.ref b17), .val (.ref b21), .val (.int (0 : Int32)), .val (.int (3 : Int32)), .val (.ref b93)] [(.ref b93), (.ref b1)])) rfl (by rw [hml]; rfl) (Steps.refl _) (argsL := [(.ref b93)]) (rest := []) (lenOf pd_3 rfl) rfl (by show 2 * 0 + _ ≤ _; exact Nat.le_of_eq rfl) (hb hby at_114) (fun _ _ => ⟨rfl, rfl, (by decide : 12 + 0 ≤ _), (by decide : 58 + 0 ≤ _)⟩)
      dsimp only [Pt.U, Pt.locs, Pt.cells, Pt.slots] at X99 l99 y99 z99 st99 hQ99
      subst l99 y99 z99
      obtain ⟨rfl, Nq99, eq99⟩ := hQ99
      have N99 := Fr.app N96 Nq99
      refine Runs.by (fun _ hr => st99.trans hr) ?_
      rw [show own_has [b1] b13 = (0 : Int32) from by simp [own_has, ((Ne.symm ne_b1_b13) : ¬ b13 = b1)]]
      show Runs p e below _ (T99.setTop (mkF m 117 #[.val (.int p0), .val (.int p1), .val (.ref b1), .val (.ref b5), .val (.ref b9), .val (.ref b13), .val (.ref b17), .val (.ref b21), .val (.int (0 : Int32)), .val (.int (3 : Int32)), .val (.ref b93)] [(.int (0 : Int32))]))
      refine Runs.by (fun _ hr => XS.iload X99.here hx rfl (hb hby at_117) rfl  hr) ?_
      show Runs p e below _ (T99.setTop (mkF m 119 #[.val (.int p0), .val (.int p1), .val (.ref b1), .val (.ref b5), .val (.ref b9), .val (.ref b13), .val (.ref b17), .val (.ref b21), .val (.int (0 : Int32)), .val (.int (3 : Int32)), .val (.ref b93)] [(.int (0 : Int32)), (.int (0 : Int32))]))
      refine Runs.by (fun _ hr => XS.iload X99.here hx rfl (hb hby at_119) rfl  hr) ?_
      show Runs p e below _ (T99.setTop (mkF m 121 #[.val (.int p0), .val (.int p1), .val (.ref b1), .val (.ref b5), .val (.ref b9), .val (.ref b13), .val (.ref b17), .val (.ref b21), .val (.int (0 : Int32)), .val (.int (3 : Int32)), .val (.ref b93)] [(.int (3 : Int32)), (.int (0 : Int32)), (.int (0 : Int32))]))
      obtain ⟨_, _, ⟨T100, L100, k100, n100⟩, -, X100, ⟨Lc100, hQ100, l100, y100, z100⟩, st100⟩ := Jvm.LawKit.callS X99 hx (y := (⟨"com/example/prorata/prorata/request/FormHasPinLaw", "reaches", "(II)Z"⟩ : MethodName)) hown (mvT hZ (hw _ (List.mem_of_getElem? (i := 64) rfl))) (mvT hZ (hw _ (List.mem_of_getElem? (i := 65) rfl))) (mvT hZ (hw _ (List.mem_of_getElem? (i := 66) rfl))) (mvT hZ (hw _ (List.mem_of_getElem? (i := 67) rfl))) (by decide) (backOf (W := 1) (rm10 l Z a0 hw [] (0 : Int32) (3 : Int32)  T96.heap n0 (Nat.le_trans Z0 K97.1) ) hZ (hw _ (List.mem_of_getElem? (i := 67) rfl)) (hw _ (List.mem_of_getElem? (i := 66) rfl)) (by decide) (by decide)) (g := (mkF m 121 #[.val (.int p0), .val (.int p1), .val (.ref b1), .val (.ref b5), .val (.ref b9), .val (.ref b13), .val (.ref b17), .val (.ref b21), .val (.int (0 : Int32)), .val (.int (3 : Int32)), .val (.ref b93)] [(.int (3 : Int32)), (.int (0 : Int32)), (.int (0 : Int32))])) rfl (by rw [hml]; rfl) (argsL := [(.int (0 : Int32)), (.int (3 : Int32))]) (rest := [(.int (0 : Int32))]) (lenOf pd_5 rfl) rfl (by show 2 * 0 + _ ≤ _; exact Nat.le_of_eq rfl) (hb hby at_121) (fun _ _ => ⟨rfl, eq99, (by decide : 12 + 0 ≤ _), (by decide : 58 + 0 ≤ _)⟩)
      dsimp only [Pt.U, Pt.locs, Pt.cells, Pt.slots] at X100 l100 y100 z100 st100 hQ100
      subst l100 y100 z100
      obtain ⟨rfl, Nq100, eq100⟩ := hQ100
      have N100 := Fr.app N99 Nq100
      refine Runs.by (fun t hr => st100 t hr) ?_
      rw [show own_reach (0 : Int32) (3 : Int32) = (0 : Int32) from by decide]
      show Runs p e below _ (T100.setTop (mkF m 124 #[.val (.int p0), .val (.int p1), .val (.ref b1), .val (.ref b5), .val (.ref b9), .val (.ref b13), .val (.ref b17), .val (.ref b21), .val (.int (0 : Int32)), .val (.int (3 : Int32)), .val (.ref b93)] [(.int (0 : Int32)), (.int (0 : Int32))]))
      have hc124 : (0 : Int32) = (0 : Int32) := (by decide)
      refine Runs.by (fun _ hr => XS.icmpNo X100.here hx rfl (hb hby at_124) rfl (teq hc124).2 hr) ?_
      show Runs p e below _ (T100.setTop (mkF m 127 #[.val (.int p0), .val (.int p1), .val (.ref b1), .val (.ref b5), .val (.ref b9), .val (.ref b13), .val (.ref b17), .val (.ref b21), .val (.int (0 : Int32)), .val (.int (3 : Int32)), .val (.ref b93)] []))
      refine Runs.by (fun _ hr => XS.iconst X100.here hx rfl (hb hby at_127) hr) ?_
      show Runs p e below _ (T100.setTop (mkF m 128 #[.val (.int p0), .val (.int p1), .val (.ref b1), .val (.ref b5), .val (.ref b9), .val (.ref b13), .val (.ref b17), .val (.ref b21), .val (.int (0 : Int32)), .val (.int (3 : Int32)), .val (.ref b93)] [(.int (1 : Int32))]))
      refine Runs.by (fun _ hr => XS.goto X100.here hx rfl (pc0 := 128) (pc' := 132) rfl (hb hby at_128) (by decide) (by decide) hr) ?_
      show Runs p e below _ (T100.setTop (mkF m 132 #[.val (.int p0), .val (.int p1), .val (.ref b1), .val (.ref b5), .val (.ref b9), .val (.ref b13), .val (.ref b17), .val (.ref b21), .val (.int (0 : Int32)), .val (.int (3 : Int32)), .val (.ref b93)] [(.int (1 : Int32))]))
      refine Runs.ret X100 hx hrt hlk (Or.inl ⟨rfl, by simp, _, rfl⟩) (by rfl) (hb hby at_132) (by decide) (by decide) ?_
      rw [eq100]
      exact ⟨rfl, N100⟩
    · skip
      show Runs p e below _ (T96.setTop (mkF m 107 #[.val (.int p0), .val (.int p1), .val (.ref b1), .val (.ref b5), .val (.ref b9), .val (.ref b13), .val (.ref b17), .val (.ref b21), .val (.int (1 : Int32)), .val (.int (3 : Int32)), .val (.ref b93)] []))
      refine Runs.by (fun _ hr => XS.aload X96.here hx rfl (hb hby at_107) rfl rfl hr) ?_
      show Runs p e below _ (T96.setTop (mkF m 109 #[.val (.int p0), .val (.int p1), .val (.ref b1), .val (.ref b5), .val (.ref b9), .val (.ref b13), .val (.ref b17), .val (.ref b21), .val (.int (1 : Int32)), .val (.int (3 : Int32)), .val (.ref b93)] [(.ref b21)]))
      refine Runs.by (fun _ hr => XS.iload X96.here hx rfl (hb hby at_109) rfl  hr) ?_
      show Runs p e below _ (T96.setTop (mkF m 111 #[.val (.int p0), .val (.int p1), .val (.ref b1), .val (.ref b5), .val (.ref b9), .val (.ref b13), .val (.ref b17), .val (.ref b21), .val (.int (1 : Int32)), .val (.int (3 : Int32)), .val (.ref b93)] [(.int (1 : Int32)), (.ref b21)]))
      obtain ⟨cl101, Ar101, -, S101, N101', H101, -⟩ := id ((V31.ext E93).keep Kq96 (ninS ne_b21_b93 nin0))
      have hin101 : ¬ ((1 : Int32) < 0 ∨ cl101.slots.size ≤ ((1 : Int32)).toNatClampNeg) := inb_of S101 ⟨by decide, by decide⟩
      have hat101 := H101.at hin101 (v := (.ref b5)) rfl
      refine Runs.by (fun t hr => X96.aaload hx (j := (1 : Int32)) (v := (.ref b5)) (by exact Ar101.1) (State.isArrayOf_alike hZ.alike Ar101.2.1) rfl Ar101.2.2 hin101 hat101 (g := (mkF m 111 #[.val (.int p0), .val (.int p1), .val (.ref b1), .val (.ref b5), .val (.ref b9), .val (.ref b13), .val (.ref b17), .val (.ref b21), .val (.int (1 : Int32)), .val (.int (3 : Int32)), .val (.ref b93)] [(.int (1 : Int32)), (.ref b21)])) rfl rfl (hb hby at_111) t hr) ?_
      show Runs p e below _ (T96.setTop (mkF m 112 #[.val (.int p0), .val (.int p1), .val (.ref b1), .val (.ref b5), .val (.ref b9), .val (.ref b13), .val (.ref b17), .val (.ref b21), .val (.int (1 : Int32)), .val (.int (3 : Int32)), .val (.ref b93)] [(.ref b5)]))
      refine Runs.by (fun _ hr => XS.aload X96.here hx rfl (hb hby at_112) rfl rfl hr) ?_
      show Runs p e below _ (T96.setTop (mkF m 114 #[.val (.int p0), .val (.int p1), .val (.ref b1), .val (.ref b5), .val (.ref b9), .val (.ref b13), .val (.ref b17), .val (.ref b21), .val (.int (1 : Int32)), .val (.int (3 : Int32)), .val (.ref b93)] [(.ref b93), (.ref b5)]))
      obtain ⟨cq102, kq102, q102a, q102b, q102c⟩ := isOf hZ rfl ((((((((((((((f7_0.ext E9).keep Kq11).ext E13).keep Kq15).ext E17).keep Kq19).ext E21).wr W23).wr W25).wr W27).wr W29).wr W31).ext E93).keep Kq96)
      obtain ⟨_, _, ⟨T102, L102, k102, n102⟩, -, X102, ⟨Lc102, hQ102, l102, y102, z102⟩, st102⟩ := X96.virtualBack hx (y := (⟨"com/example/prorata/prorata/request/Form", "has", "(Lcom/example/prorata/prorata/request/Form$Field;)Z"⟩ : MethodName)) (z := (⟨"com/example/prorata/prorata/request/Form", "has", "(Lcom/example/prorata/prorata/request/Form$Field;)Z"⟩ : MethodName)) hown (mvT hZ (hw _ (List.mem_of_getElem? (i := 54) rfl))) (mvT hZ (hw _ (List.mem_of_getElem? (i := 55) rfl))) (notFace_of_selects (args := #[]) (mvT hZ (hw _ (List.mem_of_getElem? (i := 57) rfl)))) (mvT hZ (hw _ (List.mem_of_getElem? (i := 57) rfl))) (mvT hZ (hw _ (List.mem_of_getElem? (i := 56) rfl))) (by decide) (backOf (W := 0) (rm8_2 l Z a0 hw [] b5 b93 b13 b1 T96.heap n0 (Nat.le_trans Z0 K97.1) f96_0 f96_1 ((((((((((((((f7_0.ext E9).keep Kq11).ext E13).keep Kq15).ext E17).keep Kq19).ext E21).wr W23).wr W25).wr W27).wr W29).wr W31).ext E93).keep Kq96) ((((((((((((((f7_1.ext E9).keep Kq11 (ninS ne_b5_b9 nin0)).ext E13).keep Kq15 (ninS ne_b5_b13 nin0)).ext E17).keep Kq19 (ninS ne_b5_b17 nin0)).ext E21).other W23 (Or.inl ne_b5_b21)).other W25 (Or.inl ne_b5_b21)).other W27 (Or.inl ne_b5_b21)).other W29 (Or.inl ne_b5_b21)).other W31 (Or.inl ne_b5_b21)).ext E93).keep Kq96 (ninS ne_b5_b93 nin0)) ((((((((((((((((f3_0.ext E5).keep Kq7).ext E9).keep Kq11).ext E13).keep Kq15).ext E17).keep Kq19).ext E21).wr W23).wr W25).wr W27).wr W29).wr W31).ext E93).keep Kq96) ((((((((((((((((f3_1.ext E5).keep Kq7 (ninS ne_b1_b5 nin0)).ext E9).keep Kq11 (ninS ne_b1_b9 nin0)).ext E13).keep Kq15 (ninS ne_b1_b13 nin0)).ext E17).keep Kq19 (ninS ne_b1_b17 nin0)).ext E21).other W23 (Or.inl ne_b1_b21)).other W25 (Or.inl ne_b1_b21)).other W27 (Or.inl ne_b1_b21)).other W29 (Or.inl ne_b1_b21)).other W31 (Or.inl ne_b1_b21)).ext E93).keep Kq96 (ninS ne_b1_b93 nin0))) hZ (hw _ (List.mem_of_getElem? (i := 58) rfl)) (hw _ (List.mem_of_getElem? (i := 2) rfl)) (by decide) (by decide)) q102a q102c (g := (mkF m 114 #[.val (.int p0), .val (.int p1), .val (.ref b1), .val (.ref b5), .val (.ref b9), .val (.ref b13), .val (.ref b17), .val (.ref b21), .val (.int (1 : Int32)), .val (.int (3 : Int32)), .val (.ref b93)] [(.ref b93), (.ref b5)])) rfl (by rw [hml]; rfl) (Steps.refl _) (argsL := [(.ref b93)]) (rest := []) (lenOf pd_3 rfl) rfl (by show 2 * 0 + _ ≤ _; exact Nat.le_of_eq rfl) (hb hby at_114) (fun _ _ => ⟨rfl, rfl, (by decide : 12 + 0 ≤ _), (by decide : 58 + 0 ≤ _)⟩)
      dsimp only [Pt.U, Pt.locs, Pt.cells, Pt.slots] at X102 l102 y102 z102 st102 hQ102
      subst l102 y102 z102
      obtain ⟨rfl, Nq102, eq102⟩ := hQ102
      have N102 := Fr.app N96 Nq102
      refine Runs.by (fun _ hr => st102.trans hr) ?_
      rw [show own_has [b5, b1] b13 = (0 : Int32) from by simp [own_has, ((Ne.symm ne_b5_b13) : ¬ b13 = b5), ((Ne.symm ne_b1_b13) : ¬ b13 = b1)]]
      show Runs p e below _ (T102.setTop (mkF m 117 #[.val (.int p0), .val (.int p1), .val (.ref b1), .val (.ref b5), .val (.ref b9), .val (.ref b13), .val (.ref b17), .val (.ref b21), .val (.int (1 : Int32)), .val (.int (3 : Int32)), .val (.ref b93)] [(.int (0 : Int32))]))
      refine Runs.by (fun _ hr => XS.iload X102.here hx rfl (hb hby at_117) rfl  hr) ?_
      show Runs p e below _ (T102.setTop (mkF m 119 #[.val (.int p0), .val (.int p1), .val (.ref b1), .val (.ref b5), .val (.ref b9), .val (.ref b13), .val (.ref b17), .val (.ref b21), .val (.int (1 : Int32)), .val (.int (3 : Int32)), .val (.ref b93)] [(.int (1 : Int32)), (.int (0 : Int32))]))
      refine Runs.by (fun _ hr => XS.iload X102.here hx rfl (hb hby at_119) rfl  hr) ?_
      show Runs p e below _ (T102.setTop (mkF m 121 #[.val (.int p0), .val (.int p1), .val (.ref b1), .val (.ref b5), .val (.ref b9), .val (.ref b13), .val (.ref b17), .val (.ref b21), .val (.int (1 : Int32)), .val (.int (3 : Int32)), .val (.ref b93)] [(.int (3 : Int32)), (.int (1 : Int32)), (.int (0 : Int32))]))
      obtain ⟨_, _, ⟨T103, L103, k103, n103⟩, -, X103, ⟨Lc103, hQ103, l103, y103, z103⟩, st103⟩ := Jvm.LawKit.callS X102 hx (y := (⟨"com/example/prorata/prorata/request/FormHasPinLaw", "reaches", "(II)Z"⟩ : MethodName)) hown (mvT hZ (hw _ (List.mem_of_getElem? (i := 64) rfl))) (mvT hZ (hw _ (List.mem_of_getElem? (i := 65) rfl))) (mvT hZ (hw _ (List.mem_of_getElem? (i := 66) rfl))) (mvT hZ (hw _ (List.mem_of_getElem? (i := 67) rfl))) (by decide) (backOf (W := 1) (rm10 l Z a0 hw [] (1 : Int32) (3 : Int32)  T96.heap n0 (Nat.le_trans Z0 K97.1) ) hZ (hw _ (List.mem_of_getElem? (i := 67) rfl)) (hw _ (List.mem_of_getElem? (i := 66) rfl)) (by decide) (by decide)) (g := (mkF m 121 #[.val (.int p0), .val (.int p1), .val (.ref b1), .val (.ref b5), .val (.ref b9), .val (.ref b13), .val (.ref b17), .val (.ref b21), .val (.int (1 : Int32)), .val (.int (3 : Int32)), .val (.ref b93)] [(.int (3 : Int32)), (.int (1 : Int32)), (.int (0 : Int32))])) rfl (by rw [hml]; rfl) (argsL := [(.int (1 : Int32)), (.int (3 : Int32))]) (rest := [(.int (0 : Int32))]) (lenOf pd_5 rfl) rfl (by show 2 * 0 + _ ≤ _; exact Nat.le_of_eq rfl) (hb hby at_121) (fun _ _ => ⟨rfl, eq102, (by decide : 12 + 0 ≤ _), (by decide : 58 + 0 ≤ _)⟩)
      dsimp only [Pt.U, Pt.locs, Pt.cells, Pt.slots] at X103 l103 y103 z103 st103 hQ103
      subst l103 y103 z103
      obtain ⟨rfl, Nq103, eq103⟩ := hQ103
      have N103 := Fr.app N102 Nq103
      refine Runs.by (fun t hr => st103 t hr) ?_
      rw [show own_reach (1 : Int32) (3 : Int32) = (0 : Int32) from by decide]
      show Runs p e below _ (T103.setTop (mkF m 124 #[.val (.int p0), .val (.int p1), .val (.ref b1), .val (.ref b5), .val (.ref b9), .val (.ref b13), .val (.ref b17), .val (.ref b21), .val (.int (1 : Int32)), .val (.int (3 : Int32)), .val (.ref b93)] [(.int (0 : Int32)), (.int (0 : Int32))]))
      have hc124 : (0 : Int32) = (0 : Int32) := (by decide)
      refine Runs.by (fun _ hr => XS.icmpNo X103.here hx rfl (hb hby at_124) rfl (teq hc124).2 hr) ?_
      show Runs p e below _ (T103.setTop (mkF m 127 #[.val (.int p0), .val (.int p1), .val (.ref b1), .val (.ref b5), .val (.ref b9), .val (.ref b13), .val (.ref b17), .val (.ref b21), .val (.int (1 : Int32)), .val (.int (3 : Int32)), .val (.ref b93)] []))
      refine Runs.by (fun _ hr => XS.iconst X103.here hx rfl (hb hby at_127) hr) ?_
      show Runs p e below _ (T103.setTop (mkF m 128 #[.val (.int p0), .val (.int p1), .val (.ref b1), .val (.ref b5), .val (.ref b9), .val (.ref b13), .val (.ref b17), .val (.ref b21), .val (.int (1 : Int32)), .val (.int (3 : Int32)), .val (.ref b93)] [(.int (1 : Int32))]))
      refine Runs.by (fun _ hr => XS.goto X103.here hx rfl (pc0 := 128) (pc' := 132) rfl (hb hby at_128) (by decide) (by decide) hr) ?_
      show Runs p e below _ (T103.setTop (mkF m 132 #[.val (.int p0), .val (.int p1), .val (.ref b1), .val (.ref b5), .val (.ref b9), .val (.ref b13), .val (.ref b17), .val (.ref b21), .val (.int (1 : Int32)), .val (.int (3 : Int32)), .val (.ref b93)] [(.int (1 : Int32))]))
      refine Runs.ret X103 hx hrt hlk (Or.inl ⟨rfl, by simp, _, rfl⟩) (by rfl) (hb hby at_132) (by decide) (by decide) ?_
      rw [eq103]
      exact ⟨rfl, N103⟩
    · skip
      show Runs p e below _ (T96.setTop (mkF m 107 #[.val (.int p0), .val (.int p1), .val (.ref b1), .val (.ref b5), .val (.ref b9), .val (.ref b13), .val (.ref b17), .val (.ref b21), .val (.int (2 : Int32)), .val (.int (3 : Int32)), .val (.ref b93)] []))
      refine Runs.by (fun _ hr => XS.aload X96.here hx rfl (hb hby at_107) rfl rfl hr) ?_
      show Runs p e below _ (T96.setTop (mkF m 109 #[.val (.int p0), .val (.int p1), .val (.ref b1), .val (.ref b5), .val (.ref b9), .val (.ref b13), .val (.ref b17), .val (.ref b21), .val (.int (2 : Int32)), .val (.int (3 : Int32)), .val (.ref b93)] [(.ref b21)]))
      refine Runs.by (fun _ hr => XS.iload X96.here hx rfl (hb hby at_109) rfl  hr) ?_
      show Runs p e below _ (T96.setTop (mkF m 111 #[.val (.int p0), .val (.int p1), .val (.ref b1), .val (.ref b5), .val (.ref b9), .val (.ref b13), .val (.ref b17), .val (.ref b21), .val (.int (2 : Int32)), .val (.int (3 : Int32)), .val (.ref b93)] [(.int (2 : Int32)), (.ref b21)]))
      obtain ⟨cl104, Ar104, -, S104, N104', H104, -⟩ := id ((V31.ext E93).keep Kq96 (ninS ne_b21_b93 nin0))
      have hin104 : ¬ ((2 : Int32) < 0 ∨ cl104.slots.size ≤ ((2 : Int32)).toNatClampNeg) := inb_of S104 ⟨by decide, by decide⟩
      have hat104 := H104.at hin104 (v := (.ref b9)) rfl
      refine Runs.by (fun t hr => X96.aaload hx (j := (2 : Int32)) (v := (.ref b9)) (by exact Ar104.1) (State.isArrayOf_alike hZ.alike Ar104.2.1) rfl Ar104.2.2 hin104 hat104 (g := (mkF m 111 #[.val (.int p0), .val (.int p1), .val (.ref b1), .val (.ref b5), .val (.ref b9), .val (.ref b13), .val (.ref b17), .val (.ref b21), .val (.int (2 : Int32)), .val (.int (3 : Int32)), .val (.ref b93)] [(.int (2 : Int32)), (.ref b21)])) rfl rfl (hb hby at_111) t hr) ?_
      show Runs p e below _ (T96.setTop (mkF m 112 #[.val (.int p0), .val (.int p1), .val (.ref b1), .val (.ref b5), .val (.ref b9), .val (.ref b13), .val (.ref b17), .val (.ref b21), .val (.int (2 : Int32)), .val (.int (3 : Int32)), .val (.ref b93)] [(.ref b9)]))
      refine Runs.by (fun _ hr => XS.aload X96.here hx rfl (hb hby at_112) rfl rfl hr) ?_
      show Runs p e below _ (T96.setTop (mkF m 114 #[.val (.int p0), .val (.int p1), .val (.ref b1), .val (.ref b5), .val (.ref b9), .val (.ref b13), .val (.ref b17), .val (.ref b21), .val (.int (2 : Int32)), .val (.int (3 : Int32)), .val (.ref b93)] [(.ref b93), (.ref b9)]))
      obtain ⟨cq105, kq105, q105a, q105b, q105c⟩ := isOf hZ rfl ((((((((((((f11_0.ext E13).keep Kq15).ext E17).keep Kq19).ext E21).wr W23).wr W25).wr W27).wr W29).wr W31).ext E93).keep Kq96)
      obtain ⟨_, _, ⟨T105, L105, k105, n105⟩, -, X105, ⟨Lc105, hQ105, l105, y105, z105⟩, st105⟩ := X96.virtualBack hx (y := (⟨"com/example/prorata/prorata/request/Form", "has", "(Lcom/example/prorata/prorata/request/Form$Field;)Z"⟩ : MethodName)) (z := (⟨"com/example/prorata/prorata/request/Form", "has", "(Lcom/example/prorata/prorata/request/Form$Field;)Z"⟩ : MethodName)) hown (mvT hZ (hw _ (List.mem_of_getElem? (i := 54) rfl))) (mvT hZ (hw _ (List.mem_of_getElem? (i := 55) rfl))) (notFace_of_selects (args := #[]) (mvT hZ (hw _ (List.mem_of_getElem? (i := 57) rfl)))) (mvT hZ (hw _ (List.mem_of_getElem? (i := 57) rfl))) (mvT hZ (hw _ (List.mem_of_getElem? (i := 56) rfl))) (by decide) (backOf (W := 0) (rm8_3 l Z a0 hw [] b9 b93 b13 b5 b1 T96.heap n0 (Nat.le_trans Z0 K97.1) f96_0 f96_1 ((((((((((((f11_0.ext E13).keep Kq15).ext E17).keep Kq19).ext E21).wr W23).wr W25).wr W27).wr W29).wr W31).ext E93).keep Kq96) ((((((((((((f11_1.ext E13).keep Kq15 (ninS ne_b9_b13 nin0)).ext E17).keep Kq19 (ninS ne_b9_b17 nin0)).ext E21).other W23 (Or.inl ne_b9_b21)).other W25 (Or.inl ne_b9_b21)).other W27 (Or.inl ne_b9_b21)).other W29 (Or.inl ne_b9_b21)).other W31 (Or.inl ne_b9_b21)).ext E93).keep Kq96 (ninS ne_b9_b93 nin0)) ((((((((((((((f7_0.ext E9).keep Kq11).ext E13).keep Kq15).ext E17).keep Kq19).ext E21).wr W23).wr W25).wr W27).wr W29).wr W31).ext E93).keep Kq96) ((((((((((((((f7_1.ext E9).keep Kq11 (ninS ne_b5_b9 nin0)).ext E13).keep Kq15 (ninS ne_b5_b13 nin0)).ext E17).keep Kq19 (ninS ne_b5_b17 nin0)).ext E21).other W23 (Or.inl ne_b5_b21)).other W25 (Or.inl ne_b5_b21)).other W27 (Or.inl ne_b5_b21)).other W29 (Or.inl ne_b5_b21)).other W31 (Or.inl ne_b5_b21)).ext E93).keep Kq96 (ninS ne_b5_b93 nin0)) ((((((((((((((((f3_0.ext E5).keep Kq7).ext E9).keep Kq11).ext E13).keep Kq15).ext E17).keep Kq19).ext E21).wr W23).wr W25).wr W27).wr W29).wr W31).ext E93).keep Kq96) ((((((((((((((((f3_1.ext E5).keep Kq7 (ninS ne_b1_b5 nin0)).ext E9).keep Kq11 (ninS ne_b1_b9 nin0)).ext E13).keep Kq15 (ninS ne_b1_b13 nin0)).ext E17).keep Kq19 (ninS ne_b1_b17 nin0)).ext E21).other W23 (Or.inl ne_b1_b21)).other W25 (Or.inl ne_b1_b21)).other W27 (Or.inl ne_b1_b21)).other W29 (Or.inl ne_b1_b21)).other W31 (Or.inl ne_b1_b21)).ext E93).keep Kq96 (ninS ne_b1_b93 nin0))) hZ (hw _ (List.mem_of_getElem? (i := 58) rfl)) (hw _ (List.mem_of_getElem? (i := 2) rfl)) (by decide) (by decide)) q105a q105c (g := (mkF m 114 #[.val (.int p0), .val (.int p1), .val (.ref b1), .val (.ref b5), .val (.ref b9), .val (.ref b13), .val (.ref b17), .val (.ref b21), .val (.int (2 : Int32)), .val (.int (3 : Int32)), .val (.ref b93)] [(.ref b93), (.ref b9)])) rfl (by rw [hml]; rfl) (Steps.refl _) (argsL := [(.ref b93)]) (rest := []) (lenOf pd_3 rfl) rfl (by show 2 * 0 + _ ≤ _; exact Nat.le_of_eq rfl) (hb hby at_114) (fun _ _ => ⟨rfl, rfl, (by decide : 12 + 0 ≤ _), (by decide : 58 + 0 ≤ _)⟩)
      dsimp only [Pt.U, Pt.locs, Pt.cells, Pt.slots] at X105 l105 y105 z105 st105 hQ105
      subst l105 y105 z105
      obtain ⟨rfl, Nq105, eq105⟩ := hQ105
      have N105 := Fr.app N96 Nq105
      refine Runs.by (fun _ hr => st105.trans hr) ?_
      rw [show own_has [b9, b5, b1] b13 = (0 : Int32) from by simp [own_has, ((Ne.symm ne_b9_b13) : ¬ b13 = b9), ((Ne.symm ne_b5_b13) : ¬ b13 = b5), ((Ne.symm ne_b1_b13) : ¬ b13 = b1)]]
      show Runs p e below _ (T105.setTop (mkF m 117 #[.val (.int p0), .val (.int p1), .val (.ref b1), .val (.ref b5), .val (.ref b9), .val (.ref b13), .val (.ref b17), .val (.ref b21), .val (.int (2 : Int32)), .val (.int (3 : Int32)), .val (.ref b93)] [(.int (0 : Int32))]))
      refine Runs.by (fun _ hr => XS.iload X105.here hx rfl (hb hby at_117) rfl  hr) ?_
      show Runs p e below _ (T105.setTop (mkF m 119 #[.val (.int p0), .val (.int p1), .val (.ref b1), .val (.ref b5), .val (.ref b9), .val (.ref b13), .val (.ref b17), .val (.ref b21), .val (.int (2 : Int32)), .val (.int (3 : Int32)), .val (.ref b93)] [(.int (2 : Int32)), (.int (0 : Int32))]))
      refine Runs.by (fun _ hr => XS.iload X105.here hx rfl (hb hby at_119) rfl  hr) ?_
      show Runs p e below _ (T105.setTop (mkF m 121 #[.val (.int p0), .val (.int p1), .val (.ref b1), .val (.ref b5), .val (.ref b9), .val (.ref b13), .val (.ref b17), .val (.ref b21), .val (.int (2 : Int32)), .val (.int (3 : Int32)), .val (.ref b93)] [(.int (3 : Int32)), (.int (2 : Int32)), (.int (0 : Int32))]))
      obtain ⟨_, _, ⟨T106, L106, k106, n106⟩, -, X106, ⟨Lc106, hQ106, l106, y106, z106⟩, st106⟩ := Jvm.LawKit.callS X105 hx (y := (⟨"com/example/prorata/prorata/request/FormHasPinLaw", "reaches", "(II)Z"⟩ : MethodName)) hown (mvT hZ (hw _ (List.mem_of_getElem? (i := 64) rfl))) (mvT hZ (hw _ (List.mem_of_getElem? (i := 65) rfl))) (mvT hZ (hw _ (List.mem_of_getElem? (i := 66) rfl))) (mvT hZ (hw _ (List.mem_of_getElem? (i := 67) rfl))) (by decide) (backOf (W := 1) (rm10 l Z a0 hw [] (2 : Int32) (3 : Int32)  T96.heap n0 (Nat.le_trans Z0 K97.1) ) hZ (hw _ (List.mem_of_getElem? (i := 67) rfl)) (hw _ (List.mem_of_getElem? (i := 66) rfl)) (by decide) (by decide)) (g := (mkF m 121 #[.val (.int p0), .val (.int p1), .val (.ref b1), .val (.ref b5), .val (.ref b9), .val (.ref b13), .val (.ref b17), .val (.ref b21), .val (.int (2 : Int32)), .val (.int (3 : Int32)), .val (.ref b93)] [(.int (3 : Int32)), (.int (2 : Int32)), (.int (0 : Int32))])) rfl (by rw [hml]; rfl) (argsL := [(.int (2 : Int32)), (.int (3 : Int32))]) (rest := [(.int (0 : Int32))]) (lenOf pd_5 rfl) rfl (by show 2 * 0 + _ ≤ _; exact Nat.le_of_eq rfl) (hb hby at_121) (fun _ _ => ⟨rfl, eq105, (by decide : 12 + 0 ≤ _), (by decide : 58 + 0 ≤ _)⟩)
      dsimp only [Pt.U, Pt.locs, Pt.cells, Pt.slots] at X106 l106 y106 z106 st106 hQ106
      subst l106 y106 z106
      obtain ⟨rfl, Nq106, eq106⟩ := hQ106
      have N106 := Fr.app N105 Nq106
      refine Runs.by (fun t hr => st106 t hr) ?_
      rw [show own_reach (2 : Int32) (3 : Int32) = (0 : Int32) from by decide]
      show Runs p e below _ (T106.setTop (mkF m 124 #[.val (.int p0), .val (.int p1), .val (.ref b1), .val (.ref b5), .val (.ref b9), .val (.ref b13), .val (.ref b17), .val (.ref b21), .val (.int (2 : Int32)), .val (.int (3 : Int32)), .val (.ref b93)] [(.int (0 : Int32)), (.int (0 : Int32))]))
      have hc124 : (0 : Int32) = (0 : Int32) := (by decide)
      refine Runs.by (fun _ hr => XS.icmpNo X106.here hx rfl (hb hby at_124) rfl (teq hc124).2 hr) ?_
      show Runs p e below _ (T106.setTop (mkF m 127 #[.val (.int p0), .val (.int p1), .val (.ref b1), .val (.ref b5), .val (.ref b9), .val (.ref b13), .val (.ref b17), .val (.ref b21), .val (.int (2 : Int32)), .val (.int (3 : Int32)), .val (.ref b93)] []))
      refine Runs.by (fun _ hr => XS.iconst X106.here hx rfl (hb hby at_127) hr) ?_
      show Runs p e below _ (T106.setTop (mkF m 128 #[.val (.int p0), .val (.int p1), .val (.ref b1), .val (.ref b5), .val (.ref b9), .val (.ref b13), .val (.ref b17), .val (.ref b21), .val (.int (2 : Int32)), .val (.int (3 : Int32)), .val (.ref b93)] [(.int (1 : Int32))]))
      refine Runs.by (fun _ hr => XS.goto X106.here hx rfl (pc0 := 128) (pc' := 132) rfl (hb hby at_128) (by decide) (by decide) hr) ?_
      show Runs p e below _ (T106.setTop (mkF m 132 #[.val (.int p0), .val (.int p1), .val (.ref b1), .val (.ref b5), .val (.ref b9), .val (.ref b13), .val (.ref b17), .val (.ref b21), .val (.int (2 : Int32)), .val (.int (3 : Int32)), .val (.ref b93)] [(.int (1 : Int32))]))
      refine Runs.ret X106 hx hrt hlk (Or.inl ⟨rfl, by simp, _, rfl⟩) (by rfl) (hb hby at_132) (by decide) (by decide) ?_
      rw [eq106]
      exact ⟨rfl, N106⟩
    · skip
      show Runs p e below _ (T96.setTop (mkF m 107 #[.val (.int p0), .val (.int p1), .val (.ref b1), .val (.ref b5), .val (.ref b9), .val (.ref b13), .val (.ref b17), .val (.ref b21), .val (.int (3 : Int32)), .val (.int (3 : Int32)), .val (.ref b93)] []))
      refine Runs.by (fun _ hr => XS.aload X96.here hx rfl (hb hby at_107) rfl rfl hr) ?_
      show Runs p e below _ (T96.setTop (mkF m 109 #[.val (.int p0), .val (.int p1), .val (.ref b1), .val (.ref b5), .val (.ref b9), .val (.ref b13), .val (.ref b17), .val (.ref b21), .val (.int (3 : Int32)), .val (.int (3 : Int32)), .val (.ref b93)] [(.ref b21)]))
      refine Runs.by (fun _ hr => XS.iload X96.here hx rfl (hb hby at_109) rfl  hr) ?_
      show Runs p e below _ (T96.setTop (mkF m 111 #[.val (.int p0), .val (.int p1), .val (.ref b1), .val (.ref b5), .val (.ref b9), .val (.ref b13), .val (.ref b17), .val (.ref b21), .val (.int (3 : Int32)), .val (.int (3 : Int32)), .val (.ref b93)] [(.int (3 : Int32)), (.ref b21)]))
      obtain ⟨cl107, Ar107, -, S107, N107', H107, -⟩ := id ((V31.ext E93).keep Kq96 (ninS ne_b21_b93 nin0))
      have hin107 : ¬ ((3 : Int32) < 0 ∨ cl107.slots.size ≤ ((3 : Int32)).toNatClampNeg) := inb_of S107 ⟨by decide, by decide⟩
      have hat107 := H107.at hin107 (v := (.ref b13)) rfl
      refine Runs.by (fun t hr => X96.aaload hx (j := (3 : Int32)) (v := (.ref b13)) (by exact Ar107.1) (State.isArrayOf_alike hZ.alike Ar107.2.1) rfl Ar107.2.2 hin107 hat107 (g := (mkF m 111 #[.val (.int p0), .val (.int p1), .val (.ref b1), .val (.ref b5), .val (.ref b9), .val (.ref b13), .val (.ref b17), .val (.ref b21), .val (.int (3 : Int32)), .val (.int (3 : Int32)), .val (.ref b93)] [(.int (3 : Int32)), (.ref b21)])) rfl rfl (hb hby at_111) t hr) ?_
      show Runs p e below _ (T96.setTop (mkF m 112 #[.val (.int p0), .val (.int p1), .val (.ref b1), .val (.ref b5), .val (.ref b9), .val (.ref b13), .val (.ref b17), .val (.ref b21), .val (.int (3 : Int32)), .val (.int (3 : Int32)), .val (.ref b93)] [(.ref b13)]))
      refine Runs.by (fun _ hr => XS.aload X96.here hx rfl (hb hby at_112) rfl rfl hr) ?_
      show Runs p e below _ (T96.setTop (mkF m 114 #[.val (.int p0), .val (.int p1), .val (.ref b1), .val (.ref b5), .val (.ref b9), .val (.ref b13), .val (.ref b17), .val (.ref b21), .val (.int (3 : Int32)), .val (.int (3 : Int32)), .val (.ref b93)] [(.ref b93), (.ref b13)]))
      obtain ⟨cq108, kq108, q108a, q108b, q108c⟩ := isOf hZ rfl ((((((((((f15_0.ext E17).keep Kq19).ext E21).wr W23).wr W25).wr W27).wr W29).wr W31).ext E93).keep Kq96)
      obtain ⟨_, _, ⟨T108, L108, k108, n108⟩, -, X108, ⟨Lc108, hQ108, l108, y108, z108⟩, st108⟩ := X96.virtualBack hx (y := (⟨"com/example/prorata/prorata/request/Form", "has", "(Lcom/example/prorata/prorata/request/Form$Field;)Z"⟩ : MethodName)) (z := (⟨"com/example/prorata/prorata/request/Form", "has", "(Lcom/example/prorata/prorata/request/Form$Field;)Z"⟩ : MethodName)) hown (mvT hZ (hw _ (List.mem_of_getElem? (i := 54) rfl))) (mvT hZ (hw _ (List.mem_of_getElem? (i := 55) rfl))) (notFace_of_selects (args := #[]) (mvT hZ (hw _ (List.mem_of_getElem? (i := 57) rfl)))) (mvT hZ (hw _ (List.mem_of_getElem? (i := 57) rfl))) (mvT hZ (hw _ (List.mem_of_getElem? (i := 56) rfl))) (by decide) (backOf (W := 0) (rm8_2 l Z a0 hw [] b13 b93 b13 b1 T96.heap n0 (Nat.le_trans Z0 K97.1) f96_0 f96_1 ((((((((((f15_0.ext E17).keep Kq19).ext E21).wr W23).wr W25).wr W27).wr W29).wr W31).ext E93).keep Kq96) ((((((((((f15_1.ext E17).keep Kq19 (ninS ne_b13_b17 nin0)).ext E21).other W23 (Or.inl ne_b13_b21)).other W25 (Or.inl ne_b13_b21)).other W27 (Or.inl ne_b13_b21)).other W29 (Or.inl ne_b13_b21)).other W31 (Or.inl ne_b13_b21)).ext E93).keep Kq96 (ninS ne_b13_b93 nin0)) ((((((((((((((((f3_0.ext E5).keep Kq7).ext E9).keep Kq11).ext E13).keep Kq15).ext E17).keep Kq19).ext E21).wr W23).wr W25).wr W27).wr W29).wr W31).ext E93).keep Kq96) ((((((((((((((((f3_1.ext E5).keep Kq7 (ninS ne_b1_b5 nin0)).ext E9).keep Kq11 (ninS ne_b1_b9 nin0)).ext E13).keep Kq15 (ninS ne_b1_b13 nin0)).ext E17).keep Kq19 (ninS ne_b1_b17 nin0)).ext E21).other W23 (Or.inl ne_b1_b21)).other W25 (Or.inl ne_b1_b21)).other W27 (Or.inl ne_b1_b21)).other W29 (Or.inl ne_b1_b21)).other W31 (Or.inl ne_b1_b21)).ext E93).keep Kq96 (ninS ne_b1_b93 nin0))) hZ (hw _ (List.mem_of_getElem? (i := 58) rfl)) (hw _ (List.mem_of_getElem? (i := 2) rfl)) (by decide) (by decide)) q108a q108c (g := (mkF m 114 #[.val (.int p0), .val (.int p1), .val (.ref b1), .val (.ref b5), .val (.ref b9), .val (.ref b13), .val (.ref b17), .val (.ref b21), .val (.int (3 : Int32)), .val (.int (3 : Int32)), .val (.ref b93)] [(.ref b93), (.ref b13)])) rfl (by rw [hml]; rfl) (Steps.refl _) (argsL := [(.ref b93)]) (rest := []) (lenOf pd_3 rfl) rfl (by show 2 * 0 + _ ≤ _; exact Nat.le_of_eq rfl) (hb hby at_114) (fun _ _ => ⟨rfl, rfl, (by decide : 12 + 0 ≤ _), (by decide : 58 + 0 ≤ _)⟩)
      dsimp only [Pt.U, Pt.locs, Pt.cells, Pt.slots] at X108 l108 y108 z108 st108 hQ108
      subst l108 y108 z108
      obtain ⟨rfl, Nq108, eq108⟩ := hQ108
      have N108 := Fr.app N96 Nq108
      refine Runs.by (fun _ hr => st108.trans hr) ?_
      rw [show own_has [b13, b1] b13 = (1 : Int32) from by simp [own_has, ((Ne.symm ne_b1_b13) : ¬ b13 = b1)]]
      show Runs p e below _ (T108.setTop (mkF m 117 #[.val (.int p0), .val (.int p1), .val (.ref b1), .val (.ref b5), .val (.ref b9), .val (.ref b13), .val (.ref b17), .val (.ref b21), .val (.int (3 : Int32)), .val (.int (3 : Int32)), .val (.ref b93)] [(.int (1 : Int32))]))
      refine Runs.by (fun _ hr => XS.iload X108.here hx rfl (hb hby at_117) rfl  hr) ?_
      show Runs p e below _ (T108.setTop (mkF m 119 #[.val (.int p0), .val (.int p1), .val (.ref b1), .val (.ref b5), .val (.ref b9), .val (.ref b13), .val (.ref b17), .val (.ref b21), .val (.int (3 : Int32)), .val (.int (3 : Int32)), .val (.ref b93)] [(.int (3 : Int32)), (.int (1 : Int32))]))
      refine Runs.by (fun _ hr => XS.iload X108.here hx rfl (hb hby at_119) rfl  hr) ?_
      show Runs p e below _ (T108.setTop (mkF m 121 #[.val (.int p0), .val (.int p1), .val (.ref b1), .val (.ref b5), .val (.ref b9), .val (.ref b13), .val (.ref b17), .val (.ref b21), .val (.int (3 : Int32)), .val (.int (3 : Int32)), .val (.ref b93)] [(.int (3 : Int32)), (.int (3 : Int32)), (.int (1 : Int32))]))
      obtain ⟨_, _, ⟨T109, L109, k109, n109⟩, -, X109, ⟨Lc109, hQ109, l109, y109, z109⟩, st109⟩ := Jvm.LawKit.callS X108 hx (y := (⟨"com/example/prorata/prorata/request/FormHasPinLaw", "reaches", "(II)Z"⟩ : MethodName)) hown (mvT hZ (hw _ (List.mem_of_getElem? (i := 64) rfl))) (mvT hZ (hw _ (List.mem_of_getElem? (i := 65) rfl))) (mvT hZ (hw _ (List.mem_of_getElem? (i := 66) rfl))) (mvT hZ (hw _ (List.mem_of_getElem? (i := 67) rfl))) (by decide) (backOf (W := 1) (rm10 l Z a0 hw [] (3 : Int32) (3 : Int32)  T96.heap n0 (Nat.le_trans Z0 K97.1) ) hZ (hw _ (List.mem_of_getElem? (i := 67) rfl)) (hw _ (List.mem_of_getElem? (i := 66) rfl)) (by decide) (by decide)) (g := (mkF m 121 #[.val (.int p0), .val (.int p1), .val (.ref b1), .val (.ref b5), .val (.ref b9), .val (.ref b13), .val (.ref b17), .val (.ref b21), .val (.int (3 : Int32)), .val (.int (3 : Int32)), .val (.ref b93)] [(.int (3 : Int32)), (.int (3 : Int32)), (.int (1 : Int32))])) rfl (by rw [hml]; rfl) (argsL := [(.int (3 : Int32)), (.int (3 : Int32))]) (rest := [(.int (1 : Int32))]) (lenOf pd_5 rfl) rfl (by show 2 * 0 + _ ≤ _; exact Nat.le_of_eq rfl) (hb hby at_121) (fun _ _ => ⟨rfl, eq108, (by decide : 12 + 0 ≤ _), (by decide : 58 + 0 ≤ _)⟩)
      dsimp only [Pt.U, Pt.locs, Pt.cells, Pt.slots] at X109 l109 y109 z109 st109 hQ109
      subst l109 y109 z109
      obtain ⟨rfl, Nq109, eq109⟩ := hQ109
      have N109 := Fr.app N108 Nq109
      refine Runs.by (fun t hr => st109 t hr) ?_
      rw [show own_reach (3 : Int32) (3 : Int32) = (1 : Int32) from by decide]
      show Runs p e below _ (T109.setTop (mkF m 124 #[.val (.int p0), .val (.int p1), .val (.ref b1), .val (.ref b5), .val (.ref b9), .val (.ref b13), .val (.ref b17), .val (.ref b21), .val (.int (3 : Int32)), .val (.int (3 : Int32)), .val (.ref b93)] [(.int (1 : Int32)), (.int (1 : Int32))]))
      have hc124 : (1 : Int32) = (1 : Int32) := (by decide)
      refine Runs.by (fun _ hr => XS.icmpNo X109.here hx rfl (hb hby at_124) rfl (teq hc124).2 hr) ?_
      show Runs p e below _ (T109.setTop (mkF m 127 #[.val (.int p0), .val (.int p1), .val (.ref b1), .val (.ref b5), .val (.ref b9), .val (.ref b13), .val (.ref b17), .val (.ref b21), .val (.int (3 : Int32)), .val (.int (3 : Int32)), .val (.ref b93)] []))
      refine Runs.by (fun _ hr => XS.iconst X109.here hx rfl (hb hby at_127) hr) ?_
      show Runs p e below _ (T109.setTop (mkF m 128 #[.val (.int p0), .val (.int p1), .val (.ref b1), .val (.ref b5), .val (.ref b9), .val (.ref b13), .val (.ref b17), .val (.ref b21), .val (.int (3 : Int32)), .val (.int (3 : Int32)), .val (.ref b93)] [(.int (1 : Int32))]))
      refine Runs.by (fun _ hr => XS.goto X109.here hx rfl (pc0 := 128) (pc' := 132) rfl (hb hby at_128) (by decide) (by decide) hr) ?_
      show Runs p e below _ (T109.setTop (mkF m 132 #[.val (.int p0), .val (.int p1), .val (.ref b1), .val (.ref b5), .val (.ref b9), .val (.ref b13), .val (.ref b17), .val (.ref b21), .val (.int (3 : Int32)), .val (.int (3 : Int32)), .val (.ref b93)] [(.int (1 : Int32))]))
      refine Runs.ret X109 hx hrt hlk (Or.inl ⟨rfl, by simp, _, rfl⟩) (by rfl) (hb hby at_132) (by decide) (by decide) ?_
      rw [eq109]
      exact ⟨rfl, N109⟩
    · skip
      show Runs p e below _ (T96.setTop (mkF m 107 #[.val (.int p0), .val (.int p1), .val (.ref b1), .val (.ref b5), .val (.ref b9), .val (.ref b13), .val (.ref b17), .val (.ref b21), .val (.int (4 : Int32)), .val (.int (3 : Int32)), .val (.ref b93)] []))
      refine Runs.by (fun _ hr => XS.aload X96.here hx rfl (hb hby at_107) rfl rfl hr) ?_
      show Runs p e below _ (T96.setTop (mkF m 109 #[.val (.int p0), .val (.int p1), .val (.ref b1), .val (.ref b5), .val (.ref b9), .val (.ref b13), .val (.ref b17), .val (.ref b21), .val (.int (4 : Int32)), .val (.int (3 : Int32)), .val (.ref b93)] [(.ref b21)]))
      refine Runs.by (fun _ hr => XS.iload X96.here hx rfl (hb hby at_109) rfl  hr) ?_
      show Runs p e below _ (T96.setTop (mkF m 111 #[.val (.int p0), .val (.int p1), .val (.ref b1), .val (.ref b5), .val (.ref b9), .val (.ref b13), .val (.ref b17), .val (.ref b21), .val (.int (4 : Int32)), .val (.int (3 : Int32)), .val (.ref b93)] [(.int (4 : Int32)), (.ref b21)]))
      obtain ⟨cl110, Ar110, -, S110, N110', H110, -⟩ := id ((V31.ext E93).keep Kq96 (ninS ne_b21_b93 nin0))
      have hin110 : ¬ ((4 : Int32) < 0 ∨ cl110.slots.size ≤ ((4 : Int32)).toNatClampNeg) := inb_of S110 ⟨by decide, by decide⟩
      have hat110 := H110.at hin110 (v := (.ref b17)) rfl
      refine Runs.by (fun t hr => X96.aaload hx (j := (4 : Int32)) (v := (.ref b17)) (by exact Ar110.1) (State.isArrayOf_alike hZ.alike Ar110.2.1) rfl Ar110.2.2 hin110 hat110 (g := (mkF m 111 #[.val (.int p0), .val (.int p1), .val (.ref b1), .val (.ref b5), .val (.ref b9), .val (.ref b13), .val (.ref b17), .val (.ref b21), .val (.int (4 : Int32)), .val (.int (3 : Int32)), .val (.ref b93)] [(.int (4 : Int32)), (.ref b21)])) rfl rfl (hb hby at_111) t hr) ?_
      show Runs p e below _ (T96.setTop (mkF m 112 #[.val (.int p0), .val (.int p1), .val (.ref b1), .val (.ref b5), .val (.ref b9), .val (.ref b13), .val (.ref b17), .val (.ref b21), .val (.int (4 : Int32)), .val (.int (3 : Int32)), .val (.ref b93)] [(.ref b17)]))
      refine Runs.by (fun _ hr => XS.aload X96.here hx rfl (hb hby at_112) rfl rfl hr) ?_
      show Runs p e below _ (T96.setTop (mkF m 114 #[.val (.int p0), .val (.int p1), .val (.ref b1), .val (.ref b5), .val (.ref b9), .val (.ref b13), .val (.ref b17), .val (.ref b21), .val (.int (4 : Int32)), .val (.int (3 : Int32)), .val (.ref b93)] [(.ref b93), (.ref b17)]))
      obtain ⟨cq111, kq111, q111a, q111b, q111c⟩ := isOf hZ rfl ((((((((f19_0.ext E21).wr W23).wr W25).wr W27).wr W29).wr W31).ext E93).keep Kq96)
      obtain ⟨_, _, ⟨T111, L111, k111, n111⟩, -, X111, ⟨Lc111, hQ111, l111, y111, z111⟩, st111⟩ := X96.virtualBack hx (y := (⟨"com/example/prorata/prorata/request/Form", "has", "(Lcom/example/prorata/prorata/request/Form$Field;)Z"⟩ : MethodName)) (z := (⟨"com/example/prorata/prorata/request/Form", "has", "(Lcom/example/prorata/prorata/request/Form$Field;)Z"⟩ : MethodName)) hown (mvT hZ (hw _ (List.mem_of_getElem? (i := 54) rfl))) (mvT hZ (hw _ (List.mem_of_getElem? (i := 55) rfl))) (notFace_of_selects (args := #[]) (mvT hZ (hw _ (List.mem_of_getElem? (i := 57) rfl)))) (mvT hZ (hw _ (List.mem_of_getElem? (i := 57) rfl))) (mvT hZ (hw _ (List.mem_of_getElem? (i := 56) rfl))) (by decide) (backOf (W := 0) (rm8_1 l Z a0 hw [] b17 b93 b13 T96.heap n0 (Nat.le_trans Z0 K97.1) f96_0 f96_1 ((((((((f19_0.ext E21).wr W23).wr W25).wr W27).wr W29).wr W31).ext E93).keep Kq96) ((((((((f19_1.ext E21).other W23 (Or.inl ne_b17_b21)).other W25 (Or.inl ne_b17_b21)).other W27 (Or.inl ne_b17_b21)).other W29 (Or.inl ne_b17_b21)).other W31 (Or.inl ne_b17_b21)).ext E93).keep Kq96 (ninS ne_b17_b93 nin0))) hZ (hw _ (List.mem_of_getElem? (i := 58) rfl)) (hw _ (List.mem_of_getElem? (i := 2) rfl)) (by decide) (by decide)) q111a q111c (g := (mkF m 114 #[.val (.int p0), .val (.int p1), .val (.ref b1), .val (.ref b5), .val (.ref b9), .val (.ref b13), .val (.ref b17), .val (.ref b21), .val (.int (4 : Int32)), .val (.int (3 : Int32)), .val (.ref b93)] [(.ref b93), (.ref b17)])) rfl (by rw [hml]; rfl) (Steps.refl _) (argsL := [(.ref b93)]) (rest := []) (lenOf pd_3 rfl) rfl (by show 2 * 0 + _ ≤ _; exact Nat.le_of_eq rfl) (hb hby at_114) (fun _ _ => ⟨rfl, rfl, (by decide : 12 + 0 ≤ _), (by decide : 58 + 0 ≤ _)⟩)
      dsimp only [Pt.U, Pt.locs, Pt.cells, Pt.slots] at X111 l111 y111 z111 st111 hQ111
      subst l111 y111 z111
      obtain ⟨rfl, Nq111, eq111⟩ := hQ111
      have N111 := Fr.app N96 Nq111
      refine Runs.by (fun _ hr => st111.trans hr) ?_
      rw [show own_has [b17] b13 = (0 : Int32) from by simp [own_has, (ne_b13_b17 : ¬ b13 = b17)]]
      show Runs p e below _ (T111.setTop (mkF m 117 #[.val (.int p0), .val (.int p1), .val (.ref b1), .val (.ref b5), .val (.ref b9), .val (.ref b13), .val (.ref b17), .val (.ref b21), .val (.int (4 : Int32)), .val (.int (3 : Int32)), .val (.ref b93)] [(.int (0 : Int32))]))
      refine Runs.by (fun _ hr => XS.iload X111.here hx rfl (hb hby at_117) rfl  hr) ?_
      show Runs p e below _ (T111.setTop (mkF m 119 #[.val (.int p0), .val (.int p1), .val (.ref b1), .val (.ref b5), .val (.ref b9), .val (.ref b13), .val (.ref b17), .val (.ref b21), .val (.int (4 : Int32)), .val (.int (3 : Int32)), .val (.ref b93)] [(.int (4 : Int32)), (.int (0 : Int32))]))
      refine Runs.by (fun _ hr => XS.iload X111.here hx rfl (hb hby at_119) rfl  hr) ?_
      show Runs p e below _ (T111.setTop (mkF m 121 #[.val (.int p0), .val (.int p1), .val (.ref b1), .val (.ref b5), .val (.ref b9), .val (.ref b13), .val (.ref b17), .val (.ref b21), .val (.int (4 : Int32)), .val (.int (3 : Int32)), .val (.ref b93)] [(.int (3 : Int32)), (.int (4 : Int32)), (.int (0 : Int32))]))
      obtain ⟨_, _, ⟨T112, L112, k112, n112⟩, -, X112, ⟨Lc112, hQ112, l112, y112, z112⟩, st112⟩ := Jvm.LawKit.callS X111 hx (y := (⟨"com/example/prorata/prorata/request/FormHasPinLaw", "reaches", "(II)Z"⟩ : MethodName)) hown (mvT hZ (hw _ (List.mem_of_getElem? (i := 64) rfl))) (mvT hZ (hw _ (List.mem_of_getElem? (i := 65) rfl))) (mvT hZ (hw _ (List.mem_of_getElem? (i := 66) rfl))) (mvT hZ (hw _ (List.mem_of_getElem? (i := 67) rfl))) (by decide) (backOf (W := 1) (rm10 l Z a0 hw [] (4 : Int32) (3 : Int32)  T96.heap n0 (Nat.le_trans Z0 K97.1) ) hZ (hw _ (List.mem_of_getElem? (i := 67) rfl)) (hw _ (List.mem_of_getElem? (i := 66) rfl)) (by decide) (by decide)) (g := (mkF m 121 #[.val (.int p0), .val (.int p1), .val (.ref b1), .val (.ref b5), .val (.ref b9), .val (.ref b13), .val (.ref b17), .val (.ref b21), .val (.int (4 : Int32)), .val (.int (3 : Int32)), .val (.ref b93)] [(.int (3 : Int32)), (.int (4 : Int32)), (.int (0 : Int32))])) rfl (by rw [hml]; rfl) (argsL := [(.int (4 : Int32)), (.int (3 : Int32))]) (rest := [(.int (0 : Int32))]) (lenOf pd_5 rfl) rfl (by show 2 * 0 + _ ≤ _; exact Nat.le_of_eq rfl) (hb hby at_121) (fun _ _ => ⟨rfl, eq111, (by decide : 12 + 0 ≤ _), (by decide : 58 + 0 ≤ _)⟩)
      dsimp only [Pt.U, Pt.locs, Pt.cells, Pt.slots] at X112 l112 y112 z112 st112 hQ112
      subst l112 y112 z112
      obtain ⟨rfl, Nq112, eq112⟩ := hQ112
      have N112 := Fr.app N111 Nq112
      refine Runs.by (fun t hr => st112 t hr) ?_
      rw [show own_reach (4 : Int32) (3 : Int32) = (0 : Int32) from by decide]
      show Runs p e below _ (T112.setTop (mkF m 124 #[.val (.int p0), .val (.int p1), .val (.ref b1), .val (.ref b5), .val (.ref b9), .val (.ref b13), .val (.ref b17), .val (.ref b21), .val (.int (4 : Int32)), .val (.int (3 : Int32)), .val (.ref b93)] [(.int (0 : Int32)), (.int (0 : Int32))]))
      have hc124 : (0 : Int32) = (0 : Int32) := (by decide)
      refine Runs.by (fun _ hr => XS.icmpNo X112.here hx rfl (hb hby at_124) rfl (teq hc124).2 hr) ?_
      show Runs p e below _ (T112.setTop (mkF m 127 #[.val (.int p0), .val (.int p1), .val (.ref b1), .val (.ref b5), .val (.ref b9), .val (.ref b13), .val (.ref b17), .val (.ref b21), .val (.int (4 : Int32)), .val (.int (3 : Int32)), .val (.ref b93)] []))
      refine Runs.by (fun _ hr => XS.iconst X112.here hx rfl (hb hby at_127) hr) ?_
      show Runs p e below _ (T112.setTop (mkF m 128 #[.val (.int p0), .val (.int p1), .val (.ref b1), .val (.ref b5), .val (.ref b9), .val (.ref b13), .val (.ref b17), .val (.ref b21), .val (.int (4 : Int32)), .val (.int (3 : Int32)), .val (.ref b93)] [(.int (1 : Int32))]))
      refine Runs.by (fun _ hr => XS.goto X112.here hx rfl (pc0 := 128) (pc' := 132) rfl (hb hby at_128) (by decide) (by decide) hr) ?_
      show Runs p e below _ (T112.setTop (mkF m 132 #[.val (.int p0), .val (.int p1), .val (.ref b1), .val (.ref b5), .val (.ref b9), .val (.ref b13), .val (.ref b17), .val (.ref b21), .val (.int (4 : Int32)), .val (.int (3 : Int32)), .val (.ref b93)] [(.int (1 : Int32))]))
      refine Runs.ret X112 hx hrt hlk (Or.inl ⟨rfl, by simp, _, rfl⟩) (by rfl) (hb hby at_132) (by decide) (by decide) ?_
      rw [eq112]
      exact ⟨rfl, N112⟩
  · skip
    show Runs p e below _ (T31.setTop (mkF m 91 #[.val (.int p0), .val (.int p1), .val (.ref b1), .val (.ref b5), .val (.ref b9), .val (.ref b13), .val (.ref b17), .val (.ref b21), .val (.int ((p0 &&& (2147483647 : Int32)) % (5 : Int32))), .val (.int (4 : Int32)), .unset] []))
    obtain ⟨T113, h113, X113, e113, E113, A113, D113, -, st113⟩ := newO X31 hx hZ hown (hw _ (List.mem_of_getElem? (i := 36) rfl)) (hw _ (List.mem_of_getElem? (i := 37) rfl)) (hw _ (List.mem_of_getElem? (i := 38) rfl)) e31 (g := (mkF m 91 #[.val (.int p0), .val (.int p1), .val (.ref b1), .val (.ref b5), .val (.ref b9), .val (.ref b13), .val (.ref b17), .val (.ref b21), .val (.int ((p0 &&& (2147483647 : Int32)) % (5 : Int32))), .val (.int (4 : Int32)), .unset] [])) rfl (hb hby at_91) (by decide) (by decide)
    obtain ⟨b113, gz113⟩ : ∃ z, z = h31.size := ⟨_, rfl⟩
    rw [← gz113] at A113 D113 st113
    have ne_b1_b113 : b1 ≠ b113 := Nat.ne_of_lt (Nat.lt_of_lt_of_le ((((((((((((((f3_0.ext E5).keep Kq7).ext E9).keep Kq11).ext E13).keep Kq15).ext E17).keep Kq19).ext E21).wr W23).wr W25).wr W27).wr W29).wr W31).lt (Nat.le_of_eq gz113.symm))
    have ne_b5_b113 : b5 ≠ b113 := Nat.ne_of_lt (Nat.lt_of_lt_of_le ((((((((((((f7_0.ext E9).keep Kq11).ext E13).keep Kq15).ext E17).keep Kq19).ext E21).wr W23).wr W25).wr W27).wr W29).wr W31).lt (Nat.le_of_eq gz113.symm))
    have ne_b9_b113 : b9 ≠ b113 := Nat.ne_of_lt (Nat.lt_of_lt_of_le ((((((((((f11_0.ext E13).keep Kq15).ext E17).keep Kq19).ext E21).wr W23).wr W25).wr W27).wr W29).wr W31).lt (Nat.le_of_eq gz113.symm))
    have ne_b13_b113 : b13 ≠ b113 := Nat.ne_of_lt (Nat.lt_of_lt_of_le ((((((((f15_0.ext E17).keep Kq19).ext E21).wr W23).wr W25).wr W27).wr W29).wr W31).lt (Nat.le_of_eq gz113.symm))
    have ne_b17_b113 : b17 ≠ b113 := Nat.ne_of_lt (Nat.lt_of_lt_of_le ((((((f19_0.ext E21).wr W23).wr W25).wr W27).wr W29).wr W31).lt (Nat.le_of_eq gz113.symm))
    have ne_b21_b113 : b21 ≠ b113 := Nat.ne_of_lt (Nat.lt_of_lt_of_le V31.lt (Nat.le_of_eq gz113.symm))
    have g_b113 : n0 ≤ b113 := Nat.le_trans (Nat.le_trans Z0 K32.1) (Nat.le_of_eq gz113.symm)
    have sz_b113 : h0.size ≤ b113 := Nat.le_trans K32.1 (Nat.le_of_eq gz113.symm)
    have K114 : Keep h0 h113 [] := K32.ext E113
    have F_form_b113 : Fld Z h113 b113 "com/example/prorata/prorata/request/Form$Field" "form" "Lcom/example/prorata/prorata/request/Form;" .null := D113 (Or.inr (hw _ (List.mem_of_getElem? (i := 49) rfl))) (ty := (.object "com/example/prorata/prorata/request/Form")) (by decide)
    have F_name_b113 : Fld Z h113 b113 "com/example/prorata/prorata/request/Form$Field" "name" "Ljava/lang/String;" .null := D113 (Or.inr (hw _ (List.mem_of_getElem? (i := 51) rfl))) (ty := (.object "java/lang/String")) (by decide)
    have F_holds_b113 : Fld Z h113 b113 "com/example/prorata/prorata/request/Form$Field" "holds" "Lcom/example/prorata/prorata/request/Form;" .null := D113 (Or.inr (hw _ (List.mem_of_getElem? (i := 53) rfl))) (ty := (.object "com/example/prorata/prorata/request/Form")) (by decide)
    refine Runs.by st113 ?_
    show Runs p e below _ (T113.setTop (mkF m 94 #[.val (.int p0), .val (.int p1), .val (.ref b1), .val (.ref b5), .val (.ref b9), .val (.ref b13), .val (.ref b17), .val (.ref b21), .val (.int ((p0 &&& (2147483647 : Int32)) % (5 : Int32))), .val (.int (4 : Int32)), .unset] [(.ref b113)]))
    refine Runs.by (fun _ hr => XS.dup X113.here hx rfl (hb hby at_94) rfl rfl hr) ?_
    show Runs p e below _ (T113.setTop (mkF m 95 #[.val (.int p0), .val (.int p1), .val (.ref b1), .val (.ref b5), .val (.ref b9), .val (.ref b13), .val (.ref b17), .val (.ref b21), .val (.int ((p0 &&& (2147483647 : Int32)) % (5 : Int32))), .val (.int (4 : Int32)), .unset] [(.ref b113), (.ref b113)]))
    refine Runs.by (fun _ hr => XS.aload X113.here hx rfl (hb hby at_95) rfl rfl hr) ?_
    show Runs p e below _ (T113.setTop (mkF m 97 #[.val (.int p0), .val (.int p1), .val (.ref b1), .val (.ref b5), .val (.ref b9), .val (.ref b13), .val (.ref b17), .val (.ref b21), .val (.int ((p0 &&& (2147483647 : Int32)) % (5 : Int32))), .val (.int (4 : Int32)), .unset] [(.ref b21), (.ref b113), (.ref b113)]))
    refine Runs.by (fun _ hr => XS.iload X113.here hx rfl (hb hby at_97) rfl  hr) ?_
    show Runs p e below _ (T113.setTop (mkF m 99 #[.val (.int p0), .val (.int p1), .val (.ref b1), .val (.ref b5), .val (.ref b9), .val (.ref b13), .val (.ref b17), .val (.ref b21), .val (.int ((p0 &&& (2147483647 : Int32)) % (5 : Int32))), .val (.int (4 : Int32)), .unset] [(.int (4 : Int32)), (.ref b21), (.ref b113), (.ref b113)]))
    obtain ⟨cl115, Ar115, -, S115, N115', H115, -⟩ := id (V31.ext E113)
    have hin115 : ¬ ((4 : Int32) < 0 ∨ cl115.slots.size ≤ ((4 : Int32)).toNatClampNeg) := inb_of S115 ⟨by decide, by decide⟩
    have hat115 := H115.at hin115 (v := (.ref b17)) rfl
    refine Runs.by (fun t hr => X113.aaload hx (j := (4 : Int32)) (v := (.ref b17)) (by rw [e113]; exact Ar115.1) (State.isArrayOf_alike hZ.alike Ar115.2.1) rfl Ar115.2.2 hin115 hat115 (g := (mkF m 99 #[.val (.int p0), .val (.int p1), .val (.ref b1), .val (.ref b5), .val (.ref b9), .val (.ref b13), .val (.ref b17), .val (.ref b21), .val (.int ((p0 &&& (2147483647 : Int32)) % (5 : Int32))), .val (.int (4 : Int32)), .unset] [(.int (4 : Int32)), (.ref b21), (.ref b113), (.ref b113)])) rfl rfl (hb hby at_99) t hr) ?_
    show Runs p e below _ (T113.setTop (mkF m 100 #[.val (.int p0), .val (.int p1), .val (.ref b1), .val (.ref b5), .val (.ref b9), .val (.ref b13), .val (.ref b17), .val (.ref b21), .val (.int ((p0 &&& (2147483647 : Int32)) % (5 : Int32))), .val (.int (4 : Int32)), .unset] [(.ref b17), (.ref b113), (.ref b113)]))
    refine Runs.by (fun _ hr => XS.aconstNull X113.here hx rfl (hb hby at_100) hr) ?_
    show Runs p e below _ (T113.setTop (mkF m 101 #[.val (.int p0), .val (.int p1), .val (.ref b1), .val (.ref b5), .val (.ref b9), .val (.ref b13), .val (.ref b17), .val (.ref b21), .val (.int ((p0 &&& (2147483647 : Int32)) % (5 : Int32))), .val (.int (4 : Int32)), .unset] [.null, (.ref b17), (.ref b113), (.ref b113)]))
    refine Runs.by (fun _ hr => XS.aconstNull X113.here hx rfl (hb hby at_101) hr) ?_
    show Runs p e below _ (T113.setTop (mkF m 102 #[.val (.int p0), .val (.int p1), .val (.ref b1), .val (.ref b5), .val (.ref b9), .val (.ref b13), .val (.ref b17), .val (.ref b21), .val (.int ((p0 &&& (2147483647 : Int32)) % (5 : Int32))), .val (.int (4 : Int32)), .unset] [.null, .null, (.ref b17), (.ref b113), (.ref b113)]))
    obtain ⟨_, _, ⟨T116, L116, k116, n116⟩, -, X116, ⟨Lc116, hQ116, l116, y116, z116⟩, st116⟩ := X113.specialBack hx (y := (⟨"com/example/prorata/prorata/request/Form$Field", "<init>", "(Lcom/example/prorata/prorata/request/Form;Ljava/lang/String;Lcom/example/prorata/prorata/request/Form;)V"⟩ : MethodName)) rfl hown (mvT hZ (hw _ (List.mem_of_getElem? (i := 39) rfl))) (mvT hZ (hw _ (List.mem_of_getElem? (i := 40) rfl))) (mvT hZ (hw _ (List.mem_of_getElem? (i := 41) rfl))) (by decide) (backOf (W := 1) (rm6 l Z a0 hw [] b113 b17  h113 n0 (Nat.le_trans Z0 K114.1) A113 F_form_b113 F_name_b113 F_holds_b113 g_b113) hZ (hw _ (List.mem_of_getElem? (i := 41) rfl)) (hw _ (List.mem_of_getElem? (i := 38) rfl)) (by decide) (by decide)) (g := (mkF m 102 #[.val (.int p0), .val (.int p1), .val (.ref b1), .val (.ref b5), .val (.ref b9), .val (.ref b13), .val (.ref b17), .val (.ref b21), .val (.int ((p0 &&& (2147483647 : Int32)) % (5 : Int32))), .val (.int (4 : Int32)), .unset] [.null, .null, (.ref b17), (.ref b113), (.ref b113)])) rfl (by rw [hml]; rfl) (Steps.refl _) (a := b113) (argsL := [(.ref b17), .null, .null]) (rest := [(.ref b113)]) (lenOf pd_4 rfl) rfl (by show 2 * 0 + _ ≤ _; exact Nat.le_of_eq rfl) (hb hby at_102) (fun _ _ => ⟨rfl, e113, (by decide : 12 + 0 ≤ _), (by decide : 58 + 0 ≤ _)⟩)
    dsimp only [Pt.U, Pt.locs, Pt.cells, Pt.slots] at X116 l116 y116 z116 st116 hQ116
    subst l116 y116 z116
    obtain ⟨rfl, Nq116, Kq116, f116_0, f116_1⟩ := hQ116
    have N116 := Fr.app N31 Nq116
    have K117 : Keep h0 T116.heap [] := Keep.trans (ws := []) K114 Kq116 (allS (Or.inr sz_b113) all0)
    refine Runs.by (fun _ hr => st116.trans hr) ?_
    show Runs p e below _ (T116.setTop (mkF m 105 #[.val (.int p0), .val (.int p1), .val (.ref b1), .val (.ref b5), .val (.ref b9), .val (.ref b13), .val (.ref b17), .val (.ref b21), .val (.int ((p0 &&& (2147483647 : Int32)) % (5 : Int32))), .val (.int (4 : Int32)), .unset] [(.ref b113)]))
    refine Runs.by (fun _ hr => XS.astore X116.here hx rfl (hb hby at_105) rfl rfl (l' := #[.val (.int p0), .val (.int p1), .val (.ref b1), .val (.ref b5), .val (.ref b9), .val (.ref b13), .val (.ref b17), .val (.ref b21), .val (.int ((p0 &&& (2147483647 : Int32)) % (5 : Int32))), .val (.int (4 : Int32)), .val (.ref b113)]) rfl hr) ?_
    have hk8 := own_mod5 p0
    generalize (p0 &&& (2147483647 : Int32)) % (5 : Int32) = kk at hk8 ⊢
    rcases hk8 with rfl | rfl | rfl | rfl | rfl
    · skip
      show Runs p e below _ (T116.setTop (mkF m 107 #[.val (.int p0), .val (.int p1), .val (.ref b1), .val (.ref b5), .val (.ref b9), .val (.ref b13), .val (.ref b17), .val (.ref b21), .val (.int (0 : Int32)), .val (.int (4 : Int32)), .val (.ref b113)] []))
      refine Runs.by (fun _ hr => XS.aload X116.here hx rfl (hb hby at_107) rfl rfl hr) ?_
      show Runs p e below _ (T116.setTop (mkF m 109 #[.val (.int p0), .val (.int p1), .val (.ref b1), .val (.ref b5), .val (.ref b9), .val (.ref b13), .val (.ref b17), .val (.ref b21), .val (.int (0 : Int32)), .val (.int (4 : Int32)), .val (.ref b113)] [(.ref b21)]))
      refine Runs.by (fun _ hr => XS.iload X116.here hx rfl (hb hby at_109) rfl  hr) ?_
      show Runs p e below _ (T116.setTop (mkF m 111 #[.val (.int p0), .val (.int p1), .val (.ref b1), .val (.ref b5), .val (.ref b9), .val (.ref b13), .val (.ref b17), .val (.ref b21), .val (.int (0 : Int32)), .val (.int (4 : Int32)), .val (.ref b113)] [(.int (0 : Int32)), (.ref b21)]))
      obtain ⟨cl118, Ar118, -, S118, N118', H118, -⟩ := id ((V31.ext E113).keep Kq116 (ninS ne_b21_b113 nin0))
      have hin118 : ¬ ((0 : Int32) < 0 ∨ cl118.slots.size ≤ ((0 : Int32)).toNatClampNeg) := inb_of S118 ⟨by decide, by decide⟩
      have hat118 := H118.at hin118 (v := (.ref b1)) rfl
      refine Runs.by (fun t hr => X116.aaload hx (j := (0 : Int32)) (v := (.ref b1)) (by exact Ar118.1) (State.isArrayOf_alike hZ.alike Ar118.2.1) rfl Ar118.2.2 hin118 hat118 (g := (mkF m 111 #[.val (.int p0), .val (.int p1), .val (.ref b1), .val (.ref b5), .val (.ref b9), .val (.ref b13), .val (.ref b17), .val (.ref b21), .val (.int (0 : Int32)), .val (.int (4 : Int32)), .val (.ref b113)] [(.int (0 : Int32)), (.ref b21)])) rfl rfl (hb hby at_111) t hr) ?_
      show Runs p e below _ (T116.setTop (mkF m 112 #[.val (.int p0), .val (.int p1), .val (.ref b1), .val (.ref b5), .val (.ref b9), .val (.ref b13), .val (.ref b17), .val (.ref b21), .val (.int (0 : Int32)), .val (.int (4 : Int32)), .val (.ref b113)] [(.ref b1)]))
      refine Runs.by (fun _ hr => XS.aload X116.here hx rfl (hb hby at_112) rfl rfl hr) ?_
      show Runs p e below _ (T116.setTop (mkF m 114 #[.val (.int p0), .val (.int p1), .val (.ref b1), .val (.ref b5), .val (.ref b9), .val (.ref b13), .val (.ref b17), .val (.ref b21), .val (.int (0 : Int32)), .val (.int (4 : Int32)), .val (.ref b113)] [(.ref b113), (.ref b1)]))
      obtain ⟨cq119, kq119, q119a, q119b, q119c⟩ := isOf hZ rfl ((((((((((((((((f3_0.ext E5).keep Kq7).ext E9).keep Kq11).ext E13).keep Kq15).ext E17).keep Kq19).ext E21).wr W23).wr W25).wr W27).wr W29).wr W31).ext E113).keep Kq116)
      obtain ⟨_, _, ⟨T119, L119, k119, n119⟩, -, X119, ⟨Lc119, hQ119, l119, y119, z119⟩, st119⟩ := X116.virtualBack hx (y := (⟨"com/example/prorata/prorata/request/Form", "has", "(Lcom/example/prorata/prorata/request/Form$Field;)Z"⟩ : MethodName)) (z := (⟨"com/example/prorata/prorata/request/Form", "has", "(Lcom/example/prorata/prorata/request/Form$Field;)Z"⟩ : MethodName)) hown (mvT hZ (hw _ (List.mem_of_getElem? (i := 54) rfl))) (mvT hZ (hw _ (List.mem_of_getElem? (i := 55) rfl))) (notFace_of_selects (args := #[]) (mvT hZ (hw _ (List.mem_of_getElem? (i := 57) rfl)))) (mvT hZ (hw _ (List.mem_of_getElem? (i := 57) rfl))) (mvT hZ (hw _ (List.mem_of_getElem? (i := 56) rfl))) (by decide) (backOf (W := 0) (rm8_1 l Z a0 hw [] b1 b113 b17 T116.heap n0 (Nat.le_trans Z0 K117.1) f116_0 f116_1 ((((((((((((((((f3_0.ext E5).keep Kq7).ext E9).keep Kq11).ext E13).keep Kq15).ext E17).keep Kq19).ext E21).wr W23).wr W25).wr W27).wr W29).wr W31).ext E113).keep Kq116) ((((((((((((((((f3_1.ext E5).keep Kq7 (ninS ne_b1_b5 nin0)).ext E9).keep Kq11 (ninS ne_b1_b9 nin0)).ext E13).keep Kq15 (ninS ne_b1_b13 nin0)).ext E17).keep Kq19 (ninS ne_b1_b17 nin0)).ext E21).other W23 (Or.inl ne_b1_b21)).other W25 (Or.inl ne_b1_b21)).other W27 (Or.inl ne_b1_b21)).other W29 (Or.inl ne_b1_b21)).other W31 (Or.inl ne_b1_b21)).ext E113).keep Kq116 (ninS ne_b1_b113 nin0))) hZ (hw _ (List.mem_of_getElem? (i := 58) rfl)) (hw _ (List.mem_of_getElem? (i := 2) rfl)) (by decide) (by decide)) q119a q119c (g := (mkF m 114 #[.val (.int p0), .val (.int p1), .val (.ref b1), .val (.ref b5), .val (.ref b9), .val (.ref b13), .val (.ref b17), .val (.ref b21), .val (.int (0 : Int32)), .val (.int (4 : Int32)), .val (.ref b113)] [(.ref b113), (.ref b1)])) rfl (by rw [hml]; rfl) (Steps.refl _) (argsL := [(.ref b113)]) (rest := []) (lenOf pd_3 rfl) rfl (by show 2 * 0 + _ ≤ _; exact Nat.le_of_eq rfl) (hb hby at_114) (fun _ _ => ⟨rfl, rfl, (by decide : 12 + 0 ≤ _), (by decide : 58 + 0 ≤ _)⟩)
      dsimp only [Pt.U, Pt.locs, Pt.cells, Pt.slots] at X119 l119 y119 z119 st119 hQ119
      subst l119 y119 z119
      obtain ⟨rfl, Nq119, eq119⟩ := hQ119
      have N119 := Fr.app N116 Nq119
      refine Runs.by (fun _ hr => st119.trans hr) ?_
      rw [show own_has [b1] b17 = (0 : Int32) from by simp [own_has, ((Ne.symm ne_b1_b17) : ¬ b17 = b1)]]
      show Runs p e below _ (T119.setTop (mkF m 117 #[.val (.int p0), .val (.int p1), .val (.ref b1), .val (.ref b5), .val (.ref b9), .val (.ref b13), .val (.ref b17), .val (.ref b21), .val (.int (0 : Int32)), .val (.int (4 : Int32)), .val (.ref b113)] [(.int (0 : Int32))]))
      refine Runs.by (fun _ hr => XS.iload X119.here hx rfl (hb hby at_117) rfl  hr) ?_
      show Runs p e below _ (T119.setTop (mkF m 119 #[.val (.int p0), .val (.int p1), .val (.ref b1), .val (.ref b5), .val (.ref b9), .val (.ref b13), .val (.ref b17), .val (.ref b21), .val (.int (0 : Int32)), .val (.int (4 : Int32)), .val (.ref b113)] [(.int (0 : Int32)), (.int (0 : Int32))]))
      refine Runs.by (fun _ hr => XS.iload X119.here hx rfl (hb hby at_119) rfl  hr) ?_
      show Runs p e below _ (T119.setTop (mkF m 121 #[.val (.int p0), .val (.int p1), .val (.ref b1), .val (.ref b5), .val (.ref b9), .val (.ref b13), .val (.ref b17), .val (.ref b21), .val (.int (0 : Int32)), .val (.int (4 : Int32)), .val (.ref b113)] [(.int (4 : Int32)), (.int (0 : Int32)), (.int (0 : Int32))]))
      obtain ⟨_, _, ⟨T120, L120, k120, n120⟩, -, X120, ⟨Lc120, hQ120, l120, y120, z120⟩, st120⟩ := Jvm.LawKit.callS X119 hx (y := (⟨"com/example/prorata/prorata/request/FormHasPinLaw", "reaches", "(II)Z"⟩ : MethodName)) hown (mvT hZ (hw _ (List.mem_of_getElem? (i := 64) rfl))) (mvT hZ (hw _ (List.mem_of_getElem? (i := 65) rfl))) (mvT hZ (hw _ (List.mem_of_getElem? (i := 66) rfl))) (mvT hZ (hw _ (List.mem_of_getElem? (i := 67) rfl))) (by decide) (backOf (W := 1) (rm10 l Z a0 hw [] (0 : Int32) (4 : Int32)  T116.heap n0 (Nat.le_trans Z0 K117.1) ) hZ (hw _ (List.mem_of_getElem? (i := 67) rfl)) (hw _ (List.mem_of_getElem? (i := 66) rfl)) (by decide) (by decide)) (g := (mkF m 121 #[.val (.int p0), .val (.int p1), .val (.ref b1), .val (.ref b5), .val (.ref b9), .val (.ref b13), .val (.ref b17), .val (.ref b21), .val (.int (0 : Int32)), .val (.int (4 : Int32)), .val (.ref b113)] [(.int (4 : Int32)), (.int (0 : Int32)), (.int (0 : Int32))])) rfl (by rw [hml]; rfl) (argsL := [(.int (0 : Int32)), (.int (4 : Int32))]) (rest := [(.int (0 : Int32))]) (lenOf pd_5 rfl) rfl (by show 2 * 0 + _ ≤ _; exact Nat.le_of_eq rfl) (hb hby at_121) (fun _ _ => ⟨rfl, eq119, (by decide : 12 + 0 ≤ _), (by decide : 58 + 0 ≤ _)⟩)
      dsimp only [Pt.U, Pt.locs, Pt.cells, Pt.slots] at X120 l120 y120 z120 st120 hQ120
      subst l120 y120 z120
      obtain ⟨rfl, Nq120, eq120⟩ := hQ120
      have N120 := Fr.app N119 Nq120
      refine Runs.by (fun t hr => st120 t hr) ?_
      rw [show own_reach (0 : Int32) (4 : Int32) = (0 : Int32) from by decide]
      show Runs p e below _ (T120.setTop (mkF m 124 #[.val (.int p0), .val (.int p1), .val (.ref b1), .val (.ref b5), .val (.ref b9), .val (.ref b13), .val (.ref b17), .val (.ref b21), .val (.int (0 : Int32)), .val (.int (4 : Int32)), .val (.ref b113)] [(.int (0 : Int32)), (.int (0 : Int32))]))
      have hc124 : (0 : Int32) = (0 : Int32) := (by decide)
      refine Runs.by (fun _ hr => XS.icmpNo X120.here hx rfl (hb hby at_124) rfl (teq hc124).2 hr) ?_
      show Runs p e below _ (T120.setTop (mkF m 127 #[.val (.int p0), .val (.int p1), .val (.ref b1), .val (.ref b5), .val (.ref b9), .val (.ref b13), .val (.ref b17), .val (.ref b21), .val (.int (0 : Int32)), .val (.int (4 : Int32)), .val (.ref b113)] []))
      refine Runs.by (fun _ hr => XS.iconst X120.here hx rfl (hb hby at_127) hr) ?_
      show Runs p e below _ (T120.setTop (mkF m 128 #[.val (.int p0), .val (.int p1), .val (.ref b1), .val (.ref b5), .val (.ref b9), .val (.ref b13), .val (.ref b17), .val (.ref b21), .val (.int (0 : Int32)), .val (.int (4 : Int32)), .val (.ref b113)] [(.int (1 : Int32))]))
      refine Runs.by (fun _ hr => XS.goto X120.here hx rfl (pc0 := 128) (pc' := 132) rfl (hb hby at_128) (by decide) (by decide) hr) ?_
      show Runs p e below _ (T120.setTop (mkF m 132 #[.val (.int p0), .val (.int p1), .val (.ref b1), .val (.ref b5), .val (.ref b9), .val (.ref b13), .val (.ref b17), .val (.ref b21), .val (.int (0 : Int32)), .val (.int (4 : Int32)), .val (.ref b113)] [(.int (1 : Int32))]))
      refine Runs.ret X120 hx hrt hlk (Or.inl ⟨rfl, by simp, _, rfl⟩) (by rfl) (hb hby at_132) (by decide) (by decide) ?_
      rw [eq120]
      exact ⟨rfl, N120⟩
    · skip
      show Runs p e below _ (T116.setTop (mkF m 107 #[.val (.int p0), .val (.int p1), .val (.ref b1), .val (.ref b5), .val (.ref b9), .val (.ref b13), .val (.ref b17), .val (.ref b21), .val (.int (1 : Int32)), .val (.int (4 : Int32)), .val (.ref b113)] []))
      refine Runs.by (fun _ hr => XS.aload X116.here hx rfl (hb hby at_107) rfl rfl hr) ?_
      show Runs p e below _ (T116.setTop (mkF m 109 #[.val (.int p0), .val (.int p1), .val (.ref b1), .val (.ref b5), .val (.ref b9), .val (.ref b13), .val (.ref b17), .val (.ref b21), .val (.int (1 : Int32)), .val (.int (4 : Int32)), .val (.ref b113)] [(.ref b21)]))
      refine Runs.by (fun _ hr => XS.iload X116.here hx rfl (hb hby at_109) rfl  hr) ?_
      show Runs p e below _ (T116.setTop (mkF m 111 #[.val (.int p0), .val (.int p1), .val (.ref b1), .val (.ref b5), .val (.ref b9), .val (.ref b13), .val (.ref b17), .val (.ref b21), .val (.int (1 : Int32)), .val (.int (4 : Int32)), .val (.ref b113)] [(.int (1 : Int32)), (.ref b21)]))
      obtain ⟨cl121, Ar121, -, S121, N121', H121, -⟩ := id ((V31.ext E113).keep Kq116 (ninS ne_b21_b113 nin0))
      have hin121 : ¬ ((1 : Int32) < 0 ∨ cl121.slots.size ≤ ((1 : Int32)).toNatClampNeg) := inb_of S121 ⟨by decide, by decide⟩
      have hat121 := H121.at hin121 (v := (.ref b5)) rfl
      refine Runs.by (fun t hr => X116.aaload hx (j := (1 : Int32)) (v := (.ref b5)) (by exact Ar121.1) (State.isArrayOf_alike hZ.alike Ar121.2.1) rfl Ar121.2.2 hin121 hat121 (g := (mkF m 111 #[.val (.int p0), .val (.int p1), .val (.ref b1), .val (.ref b5), .val (.ref b9), .val (.ref b13), .val (.ref b17), .val (.ref b21), .val (.int (1 : Int32)), .val (.int (4 : Int32)), .val (.ref b113)] [(.int (1 : Int32)), (.ref b21)])) rfl rfl (hb hby at_111) t hr) ?_
      show Runs p e below _ (T116.setTop (mkF m 112 #[.val (.int p0), .val (.int p1), .val (.ref b1), .val (.ref b5), .val (.ref b9), .val (.ref b13), .val (.ref b17), .val (.ref b21), .val (.int (1 : Int32)), .val (.int (4 : Int32)), .val (.ref b113)] [(.ref b5)]))
      refine Runs.by (fun _ hr => XS.aload X116.here hx rfl (hb hby at_112) rfl rfl hr) ?_
      show Runs p e below _ (T116.setTop (mkF m 114 #[.val (.int p0), .val (.int p1), .val (.ref b1), .val (.ref b5), .val (.ref b9), .val (.ref b13), .val (.ref b17), .val (.ref b21), .val (.int (1 : Int32)), .val (.int (4 : Int32)), .val (.ref b113)] [(.ref b113), (.ref b5)]))
      obtain ⟨cq122, kq122, q122a, q122b, q122c⟩ := isOf hZ rfl ((((((((((((((f7_0.ext E9).keep Kq11).ext E13).keep Kq15).ext E17).keep Kq19).ext E21).wr W23).wr W25).wr W27).wr W29).wr W31).ext E113).keep Kq116)
      obtain ⟨_, _, ⟨T122, L122, k122, n122⟩, -, X122, ⟨Lc122, hQ122, l122, y122, z122⟩, st122⟩ := X116.virtualBack hx (y := (⟨"com/example/prorata/prorata/request/Form", "has", "(Lcom/example/prorata/prorata/request/Form$Field;)Z"⟩ : MethodName)) (z := (⟨"com/example/prorata/prorata/request/Form", "has", "(Lcom/example/prorata/prorata/request/Form$Field;)Z"⟩ : MethodName)) hown (mvT hZ (hw _ (List.mem_of_getElem? (i := 54) rfl))) (mvT hZ (hw _ (List.mem_of_getElem? (i := 55) rfl))) (notFace_of_selects (args := #[]) (mvT hZ (hw _ (List.mem_of_getElem? (i := 57) rfl)))) (mvT hZ (hw _ (List.mem_of_getElem? (i := 57) rfl))) (mvT hZ (hw _ (List.mem_of_getElem? (i := 56) rfl))) (by decide) (backOf (W := 0) (rm8_2 l Z a0 hw [] b5 b113 b17 b1 T116.heap n0 (Nat.le_trans Z0 K117.1) f116_0 f116_1 ((((((((((((((f7_0.ext E9).keep Kq11).ext E13).keep Kq15).ext E17).keep Kq19).ext E21).wr W23).wr W25).wr W27).wr W29).wr W31).ext E113).keep Kq116) ((((((((((((((f7_1.ext E9).keep Kq11 (ninS ne_b5_b9 nin0)).ext E13).keep Kq15 (ninS ne_b5_b13 nin0)).ext E17).keep Kq19 (ninS ne_b5_b17 nin0)).ext E21).other W23 (Or.inl ne_b5_b21)).other W25 (Or.inl ne_b5_b21)).other W27 (Or.inl ne_b5_b21)).other W29 (Or.inl ne_b5_b21)).other W31 (Or.inl ne_b5_b21)).ext E113).keep Kq116 (ninS ne_b5_b113 nin0)) ((((((((((((((((f3_0.ext E5).keep Kq7).ext E9).keep Kq11).ext E13).keep Kq15).ext E17).keep Kq19).ext E21).wr W23).wr W25).wr W27).wr W29).wr W31).ext E113).keep Kq116) ((((((((((((((((f3_1.ext E5).keep Kq7 (ninS ne_b1_b5 nin0)).ext E9).keep Kq11 (ninS ne_b1_b9 nin0)).ext E13).keep Kq15 (ninS ne_b1_b13 nin0)).ext E17).keep Kq19 (ninS ne_b1_b17 nin0)).ext E21).other W23 (Or.inl ne_b1_b21)).other W25 (Or.inl ne_b1_b21)).other W27 (Or.inl ne_b1_b21)).other W29 (Or.inl ne_b1_b21)).other W31 (Or.inl ne_b1_b21)).ext E113).keep Kq116 (ninS ne_b1_b113 nin0))) hZ (hw _ (List.mem_of_getElem? (i := 58) rfl)) (hw _ (List.mem_of_getElem? (i := 2) rfl)) (by decide) (by decide)) q122a q122c (g := (mkF m 114 #[.val (.int p0), .val (.int p1), .val (.ref b1), .val (.ref b5), .val (.ref b9), .val (.ref b13), .val (.ref b17), .val (.ref b21), .val (.int (1 : Int32)), .val (.int (4 : Int32)), .val (.ref b113)] [(.ref b113), (.ref b5)])) rfl (by rw [hml]; rfl) (Steps.refl _) (argsL := [(.ref b113)]) (rest := []) (lenOf pd_3 rfl) rfl (by show 2 * 0 + _ ≤ _; exact Nat.le_of_eq rfl) (hb hby at_114) (fun _ _ => ⟨rfl, rfl, (by decide : 12 + 0 ≤ _), (by decide : 58 + 0 ≤ _)⟩)
      dsimp only [Pt.U, Pt.locs, Pt.cells, Pt.slots] at X122 l122 y122 z122 st122 hQ122
      subst l122 y122 z122
      obtain ⟨rfl, Nq122, eq122⟩ := hQ122
      have N122 := Fr.app N116 Nq122
      refine Runs.by (fun _ hr => st122.trans hr) ?_
      rw [show own_has [b5, b1] b17 = (0 : Int32) from by simp [own_has, ((Ne.symm ne_b5_b17) : ¬ b17 = b5), ((Ne.symm ne_b1_b17) : ¬ b17 = b1)]]
      show Runs p e below _ (T122.setTop (mkF m 117 #[.val (.int p0), .val (.int p1), .val (.ref b1), .val (.ref b5), .val (.ref b9), .val (.ref b13), .val (.ref b17), .val (.ref b21), .val (.int (1 : Int32)), .val (.int (4 : Int32)), .val (.ref b113)] [(.int (0 : Int32))]))
      refine Runs.by (fun _ hr => XS.iload X122.here hx rfl (hb hby at_117) rfl  hr) ?_
      show Runs p e below _ (T122.setTop (mkF m 119 #[.val (.int p0), .val (.int p1), .val (.ref b1), .val (.ref b5), .val (.ref b9), .val (.ref b13), .val (.ref b17), .val (.ref b21), .val (.int (1 : Int32)), .val (.int (4 : Int32)), .val (.ref b113)] [(.int (1 : Int32)), (.int (0 : Int32))]))
      refine Runs.by (fun _ hr => XS.iload X122.here hx rfl (hb hby at_119) rfl  hr) ?_
      show Runs p e below _ (T122.setTop (mkF m 121 #[.val (.int p0), .val (.int p1), .val (.ref b1), .val (.ref b5), .val (.ref b9), .val (.ref b13), .val (.ref b17), .val (.ref b21), .val (.int (1 : Int32)), .val (.int (4 : Int32)), .val (.ref b113)] [(.int (4 : Int32)), (.int (1 : Int32)), (.int (0 : Int32))]))
      obtain ⟨_, _, ⟨T123, L123, k123, n123⟩, -, X123, ⟨Lc123, hQ123, l123, y123, z123⟩, st123⟩ := Jvm.LawKit.callS X122 hx (y := (⟨"com/example/prorata/prorata/request/FormHasPinLaw", "reaches", "(II)Z"⟩ : MethodName)) hown (mvT hZ (hw _ (List.mem_of_getElem? (i := 64) rfl))) (mvT hZ (hw _ (List.mem_of_getElem? (i := 65) rfl))) (mvT hZ (hw _ (List.mem_of_getElem? (i := 66) rfl))) (mvT hZ (hw _ (List.mem_of_getElem? (i := 67) rfl))) (by decide) (backOf (W := 1) (rm10 l Z a0 hw [] (1 : Int32) (4 : Int32)  T116.heap n0 (Nat.le_trans Z0 K117.1) ) hZ (hw _ (List.mem_of_getElem? (i := 67) rfl)) (hw _ (List.mem_of_getElem? (i := 66) rfl)) (by decide) (by decide)) (g := (mkF m 121 #[.val (.int p0), .val (.int p1), .val (.ref b1), .val (.ref b5), .val (.ref b9), .val (.ref b13), .val (.ref b17), .val (.ref b21), .val (.int (1 : Int32)), .val (.int (4 : Int32)), .val (.ref b113)] [(.int (4 : Int32)), (.int (1 : Int32)), (.int (0 : Int32))])) rfl (by rw [hml]; rfl) (argsL := [(.int (1 : Int32)), (.int (4 : Int32))]) (rest := [(.int (0 : Int32))]) (lenOf pd_5 rfl) rfl (by show 2 * 0 + _ ≤ _; exact Nat.le_of_eq rfl) (hb hby at_121) (fun _ _ => ⟨rfl, eq122, (by decide : 12 + 0 ≤ _), (by decide : 58 + 0 ≤ _)⟩)
      dsimp only [Pt.U, Pt.locs, Pt.cells, Pt.slots] at X123 l123 y123 z123 st123 hQ123
      subst l123 y123 z123
      obtain ⟨rfl, Nq123, eq123⟩ := hQ123
      have N123 := Fr.app N122 Nq123
      refine Runs.by (fun t hr => st123 t hr) ?_
      rw [show own_reach (1 : Int32) (4 : Int32) = (0 : Int32) from by decide]
      show Runs p e below _ (T123.setTop (mkF m 124 #[.val (.int p0), .val (.int p1), .val (.ref b1), .val (.ref b5), .val (.ref b9), .val (.ref b13), .val (.ref b17), .val (.ref b21), .val (.int (1 : Int32)), .val (.int (4 : Int32)), .val (.ref b113)] [(.int (0 : Int32)), (.int (0 : Int32))]))
      have hc124 : (0 : Int32) = (0 : Int32) := (by decide)
      refine Runs.by (fun _ hr => XS.icmpNo X123.here hx rfl (hb hby at_124) rfl (teq hc124).2 hr) ?_
      show Runs p e below _ (T123.setTop (mkF m 127 #[.val (.int p0), .val (.int p1), .val (.ref b1), .val (.ref b5), .val (.ref b9), .val (.ref b13), .val (.ref b17), .val (.ref b21), .val (.int (1 : Int32)), .val (.int (4 : Int32)), .val (.ref b113)] []))
      refine Runs.by (fun _ hr => XS.iconst X123.here hx rfl (hb hby at_127) hr) ?_
      show Runs p e below _ (T123.setTop (mkF m 128 #[.val (.int p0), .val (.int p1), .val (.ref b1), .val (.ref b5), .val (.ref b9), .val (.ref b13), .val (.ref b17), .val (.ref b21), .val (.int (1 : Int32)), .val (.int (4 : Int32)), .val (.ref b113)] [(.int (1 : Int32))]))
      refine Runs.by (fun _ hr => XS.goto X123.here hx rfl (pc0 := 128) (pc' := 132) rfl (hb hby at_128) (by decide) (by decide) hr) ?_
      show Runs p e below _ (T123.setTop (mkF m 132 #[.val (.int p0), .val (.int p1), .val (.ref b1), .val (.ref b5), .val (.ref b9), .val (.ref b13), .val (.ref b17), .val (.ref b21), .val (.int (1 : Int32)), .val (.int (4 : Int32)), .val (.ref b113)] [(.int (1 : Int32))]))
      refine Runs.ret X123 hx hrt hlk (Or.inl ⟨rfl, by simp, _, rfl⟩) (by rfl) (hb hby at_132) (by decide) (by decide) ?_
      rw [eq123]
      exact ⟨rfl, N123⟩
    · skip
      show Runs p e below _ (T116.setTop (mkF m 107 #[.val (.int p0), .val (.int p1), .val (.ref b1), .val (.ref b5), .val (.ref b9), .val (.ref b13), .val (.ref b17), .val (.ref b21), .val (.int (2 : Int32)), .val (.int (4 : Int32)), .val (.ref b113)] []))
      refine Runs.by (fun _ hr => XS.aload X116.here hx rfl (hb hby at_107) rfl rfl hr) ?_
      show Runs p e below _ (T116.setTop (mkF m 109 #[.val (.int p0), .val (.int p1), .val (.ref b1), .val (.ref b5), .val (.ref b9), .val (.ref b13), .val (.ref b17), .val (.ref b21), .val (.int (2 : Int32)), .val (.int (4 : Int32)), .val (.ref b113)] [(.ref b21)]))
      refine Runs.by (fun _ hr => XS.iload X116.here hx rfl (hb hby at_109) rfl  hr) ?_
      show Runs p e below _ (T116.setTop (mkF m 111 #[.val (.int p0), .val (.int p1), .val (.ref b1), .val (.ref b5), .val (.ref b9), .val (.ref b13), .val (.ref b17), .val (.ref b21), .val (.int (2 : Int32)), .val (.int (4 : Int32)), .val (.ref b113)] [(.int (2 : Int32)), (.ref b21)]))
      obtain ⟨cl124, Ar124, -, S124, N124', H124, -⟩ := id ((V31.ext E113).keep Kq116 (ninS ne_b21_b113 nin0))
      have hin124 : ¬ ((2 : Int32) < 0 ∨ cl124.slots.size ≤ ((2 : Int32)).toNatClampNeg) := inb_of S124 ⟨by decide, by decide⟩
      have hat124 := H124.at hin124 (v := (.ref b9)) rfl
      refine Runs.by (fun t hr => X116.aaload hx (j := (2 : Int32)) (v := (.ref b9)) (by exact Ar124.1) (State.isArrayOf_alike hZ.alike Ar124.2.1) rfl Ar124.2.2 hin124 hat124 (g := (mkF m 111 #[.val (.int p0), .val (.int p1), .val (.ref b1), .val (.ref b5), .val (.ref b9), .val (.ref b13), .val (.ref b17), .val (.ref b21), .val (.int (2 : Int32)), .val (.int (4 : Int32)), .val (.ref b113)] [(.int (2 : Int32)), (.ref b21)])) rfl rfl (hb hby at_111) t hr) ?_
      show Runs p e below _ (T116.setTop (mkF m 112 #[.val (.int p0), .val (.int p1), .val (.ref b1), .val (.ref b5), .val (.ref b9), .val (.ref b13), .val (.ref b17), .val (.ref b21), .val (.int (2 : Int32)), .val (.int (4 : Int32)), .val (.ref b113)] [(.ref b9)]))
      refine Runs.by (fun _ hr => XS.aload X116.here hx rfl (hb hby at_112) rfl rfl hr) ?_
      show Runs p e below _ (T116.setTop (mkF m 114 #[.val (.int p0), .val (.int p1), .val (.ref b1), .val (.ref b5), .val (.ref b9), .val (.ref b13), .val (.ref b17), .val (.ref b21), .val (.int (2 : Int32)), .val (.int (4 : Int32)), .val (.ref b113)] [(.ref b113), (.ref b9)]))
      obtain ⟨cq125, kq125, q125a, q125b, q125c⟩ := isOf hZ rfl ((((((((((((f11_0.ext E13).keep Kq15).ext E17).keep Kq19).ext E21).wr W23).wr W25).wr W27).wr W29).wr W31).ext E113).keep Kq116)
      obtain ⟨_, _, ⟨T125, L125, k125, n125⟩, -, X125, ⟨Lc125, hQ125, l125, y125, z125⟩, st125⟩ := X116.virtualBack hx (y := (⟨"com/example/prorata/prorata/request/Form", "has", "(Lcom/example/prorata/prorata/request/Form$Field;)Z"⟩ : MethodName)) (z := (⟨"com/example/prorata/prorata/request/Form", "has", "(Lcom/example/prorata/prorata/request/Form$Field;)Z"⟩ : MethodName)) hown (mvT hZ (hw _ (List.mem_of_getElem? (i := 54) rfl))) (mvT hZ (hw _ (List.mem_of_getElem? (i := 55) rfl))) (notFace_of_selects (args := #[]) (mvT hZ (hw _ (List.mem_of_getElem? (i := 57) rfl)))) (mvT hZ (hw _ (List.mem_of_getElem? (i := 57) rfl))) (mvT hZ (hw _ (List.mem_of_getElem? (i := 56) rfl))) (by decide) (backOf (W := 0) (rm8_3 l Z a0 hw [] b9 b113 b17 b5 b1 T116.heap n0 (Nat.le_trans Z0 K117.1) f116_0 f116_1 ((((((((((((f11_0.ext E13).keep Kq15).ext E17).keep Kq19).ext E21).wr W23).wr W25).wr W27).wr W29).wr W31).ext E113).keep Kq116) ((((((((((((f11_1.ext E13).keep Kq15 (ninS ne_b9_b13 nin0)).ext E17).keep Kq19 (ninS ne_b9_b17 nin0)).ext E21).other W23 (Or.inl ne_b9_b21)).other W25 (Or.inl ne_b9_b21)).other W27 (Or.inl ne_b9_b21)).other W29 (Or.inl ne_b9_b21)).other W31 (Or.inl ne_b9_b21)).ext E113).keep Kq116 (ninS ne_b9_b113 nin0)) ((((((((((((((f7_0.ext E9).keep Kq11).ext E13).keep Kq15).ext E17).keep Kq19).ext E21).wr W23).wr W25).wr W27).wr W29).wr W31).ext E113).keep Kq116) ((((((((((((((f7_1.ext E9).keep Kq11 (ninS ne_b5_b9 nin0)).ext E13).keep Kq15 (ninS ne_b5_b13 nin0)).ext E17).keep Kq19 (ninS ne_b5_b17 nin0)).ext E21).other W23 (Or.inl ne_b5_b21)).other W25 (Or.inl ne_b5_b21)).other W27 (Or.inl ne_b5_b21)).other W29 (Or.inl ne_b5_b21)).other W31 (Or.inl ne_b5_b21)).ext E113).keep Kq116 (ninS ne_b5_b113 nin0)) ((((((((((((((((f3_0.ext E5).keep Kq7).ext E9).keep Kq11).ext E13).keep Kq15).ext E17).keep Kq19).ext E21).wr W23).wr W25).wr W27).wr W29).wr W31).ext E113).keep Kq116) ((((((((((((((((f3_1.ext E5).keep Kq7 (ninS ne_b1_b5 nin0)).ext E9).keep Kq11 (ninS ne_b1_b9 nin0)).ext E13).keep Kq15 (ninS ne_b1_b13 nin0)).ext E17).keep Kq19 (ninS ne_b1_b17 nin0)).ext E21).other W23 (Or.inl ne_b1_b21)).other W25 (Or.inl ne_b1_b21)).other W27 (Or.inl ne_b1_b21)).other W29 (Or.inl ne_b1_b21)).other W31 (Or.inl ne_b1_b21)).ext E113).keep Kq116 (ninS ne_b1_b113 nin0))) hZ (hw _ (List.mem_of_getElem? (i := 58) rfl)) (hw _ (List.mem_of_getElem? (i := 2) rfl)) (by decide) (by decide)) q125a q125c (g := (mkF m 114 #[.val (.int p0), .val (.int p1), .val (.ref b1), .val (.ref b5), .val (.ref b9), .val (.ref b13), .val (.ref b17), .val (.ref b21), .val (.int (2 : Int32)), .val (.int (4 : Int32)), .val (.ref b113)] [(.ref b113), (.ref b9)])) rfl (by rw [hml]; rfl) (Steps.refl _) (argsL := [(.ref b113)]) (rest := []) (lenOf pd_3 rfl) rfl (by show 2 * 0 + _ ≤ _; exact Nat.le_of_eq rfl) (hb hby at_114) (fun _ _ => ⟨rfl, rfl, (by decide : 12 + 0 ≤ _), (by decide : 58 + 0 ≤ _)⟩)
      dsimp only [Pt.U, Pt.locs, Pt.cells, Pt.slots] at X125 l125 y125 z125 st125 hQ125
      subst l125 y125 z125
      obtain ⟨rfl, Nq125, eq125⟩ := hQ125
      have N125 := Fr.app N116 Nq125
      refine Runs.by (fun _ hr => st125.trans hr) ?_
      rw [show own_has [b9, b5, b1] b17 = (0 : Int32) from by simp [own_has, ((Ne.symm ne_b9_b17) : ¬ b17 = b9), ((Ne.symm ne_b5_b17) : ¬ b17 = b5), ((Ne.symm ne_b1_b17) : ¬ b17 = b1)]]
      show Runs p e below _ (T125.setTop (mkF m 117 #[.val (.int p0), .val (.int p1), .val (.ref b1), .val (.ref b5), .val (.ref b9), .val (.ref b13), .val (.ref b17), .val (.ref b21), .val (.int (2 : Int32)), .val (.int (4 : Int32)), .val (.ref b113)] [(.int (0 : Int32))]))
      refine Runs.by (fun _ hr => XS.iload X125.here hx rfl (hb hby at_117) rfl  hr) ?_
      show Runs p e below _ (T125.setTop (mkF m 119 #[.val (.int p0), .val (.int p1), .val (.ref b1), .val (.ref b5), .val (.ref b9), .val (.ref b13), .val (.ref b17), .val (.ref b21), .val (.int (2 : Int32)), .val (.int (4 : Int32)), .val (.ref b113)] [(.int (2 : Int32)), (.int (0 : Int32))]))
      refine Runs.by (fun _ hr => XS.iload X125.here hx rfl (hb hby at_119) rfl  hr) ?_
      show Runs p e below _ (T125.setTop (mkF m 121 #[.val (.int p0), .val (.int p1), .val (.ref b1), .val (.ref b5), .val (.ref b9), .val (.ref b13), .val (.ref b17), .val (.ref b21), .val (.int (2 : Int32)), .val (.int (4 : Int32)), .val (.ref b113)] [(.int (4 : Int32)), (.int (2 : Int32)), (.int (0 : Int32))]))
      obtain ⟨_, _, ⟨T126, L126, k126, n126⟩, -, X126, ⟨Lc126, hQ126, l126, y126, z126⟩, st126⟩ := Jvm.LawKit.callS X125 hx (y := (⟨"com/example/prorata/prorata/request/FormHasPinLaw", "reaches", "(II)Z"⟩ : MethodName)) hown (mvT hZ (hw _ (List.mem_of_getElem? (i := 64) rfl))) (mvT hZ (hw _ (List.mem_of_getElem? (i := 65) rfl))) (mvT hZ (hw _ (List.mem_of_getElem? (i := 66) rfl))) (mvT hZ (hw _ (List.mem_of_getElem? (i := 67) rfl))) (by decide) (backOf (W := 1) (rm10 l Z a0 hw [] (2 : Int32) (4 : Int32)  T116.heap n0 (Nat.le_trans Z0 K117.1) ) hZ (hw _ (List.mem_of_getElem? (i := 67) rfl)) (hw _ (List.mem_of_getElem? (i := 66) rfl)) (by decide) (by decide)) (g := (mkF m 121 #[.val (.int p0), .val (.int p1), .val (.ref b1), .val (.ref b5), .val (.ref b9), .val (.ref b13), .val (.ref b17), .val (.ref b21), .val (.int (2 : Int32)), .val (.int (4 : Int32)), .val (.ref b113)] [(.int (4 : Int32)), (.int (2 : Int32)), (.int (0 : Int32))])) rfl (by rw [hml]; rfl) (argsL := [(.int (2 : Int32)), (.int (4 : Int32))]) (rest := [(.int (0 : Int32))]) (lenOf pd_5 rfl) rfl (by show 2 * 0 + _ ≤ _; exact Nat.le_of_eq rfl) (hb hby at_121) (fun _ _ => ⟨rfl, eq125, (by decide : 12 + 0 ≤ _), (by decide : 58 + 0 ≤ _)⟩)
      dsimp only [Pt.U, Pt.locs, Pt.cells, Pt.slots] at X126 l126 y126 z126 st126 hQ126
      subst l126 y126 z126
      obtain ⟨rfl, Nq126, eq126⟩ := hQ126
      have N126 := Fr.app N125 Nq126
      refine Runs.by (fun t hr => st126 t hr) ?_
      rw [show own_reach (2 : Int32) (4 : Int32) = (0 : Int32) from by decide]
      show Runs p e below _ (T126.setTop (mkF m 124 #[.val (.int p0), .val (.int p1), .val (.ref b1), .val (.ref b5), .val (.ref b9), .val (.ref b13), .val (.ref b17), .val (.ref b21), .val (.int (2 : Int32)), .val (.int (4 : Int32)), .val (.ref b113)] [(.int (0 : Int32)), (.int (0 : Int32))]))
      have hc124 : (0 : Int32) = (0 : Int32) := (by decide)
      refine Runs.by (fun _ hr => XS.icmpNo X126.here hx rfl (hb hby at_124) rfl (teq hc124).2 hr) ?_
      show Runs p e below _ (T126.setTop (mkF m 127 #[.val (.int p0), .val (.int p1), .val (.ref b1), .val (.ref b5), .val (.ref b9), .val (.ref b13), .val (.ref b17), .val (.ref b21), .val (.int (2 : Int32)), .val (.int (4 : Int32)), .val (.ref b113)] []))
      refine Runs.by (fun _ hr => XS.iconst X126.here hx rfl (hb hby at_127) hr) ?_
      show Runs p e below _ (T126.setTop (mkF m 128 #[.val (.int p0), .val (.int p1), .val (.ref b1), .val (.ref b5), .val (.ref b9), .val (.ref b13), .val (.ref b17), .val (.ref b21), .val (.int (2 : Int32)), .val (.int (4 : Int32)), .val (.ref b113)] [(.int (1 : Int32))]))
      refine Runs.by (fun _ hr => XS.goto X126.here hx rfl (pc0 := 128) (pc' := 132) rfl (hb hby at_128) (by decide) (by decide) hr) ?_
      show Runs p e below _ (T126.setTop (mkF m 132 #[.val (.int p0), .val (.int p1), .val (.ref b1), .val (.ref b5), .val (.ref b9), .val (.ref b13), .val (.ref b17), .val (.ref b21), .val (.int (2 : Int32)), .val (.int (4 : Int32)), .val (.ref b113)] [(.int (1 : Int32))]))
      refine Runs.ret X126 hx hrt hlk (Or.inl ⟨rfl, by simp, _, rfl⟩) (by rfl) (hb hby at_132) (by decide) (by decide) ?_
      rw [eq126]
      exact ⟨rfl, N126⟩
    · skip
      show Runs p e below _ (T116.setTop (mkF m 107 #[.val (.int p0), .val (.int p1), .val (.ref b1), .val (.ref b5), .val (.ref b9), .val (.ref b13), .val (.ref b17), .val (.ref b21), .val (.int (3 : Int32)), .val (.int (4 : Int32)), .val (.ref b113)] []))
      refine Runs.by (fun _ hr => XS.aload X116.here hx rfl (hb hby at_107) rfl rfl hr) ?_
      show Runs p e below _ (T116.setTop (mkF m 109 #[.val (.int p0), .val (.int p1), .val (.ref b1), .val (.ref b5), .val (.ref b9), .val (.ref b13), .val (.ref b17), .val (.ref b21), .val (.int (3 : Int32)), .val (.int (4 : Int32)), .val (.ref b113)] [(.ref b21)]))
      refine Runs.by (fun _ hr => XS.iload X116.here hx rfl (hb hby at_109) rfl  hr) ?_
      show Runs p e below _ (T116.setTop (mkF m 111 #[.val (.int p0), .val (.int p1), .val (.ref b1), .val (.ref b5), .val (.ref b9), .val (.ref b13), .val (.ref b17), .val (.ref b21), .val (.int (3 : Int32)), .val (.int (4 : Int32)), .val (.ref b113)] [(.int (3 : Int32)), (.ref b21)]))
      obtain ⟨cl127, Ar127, -, S127, N127', H127, -⟩ := id ((V31.ext E113).keep Kq116 (ninS ne_b21_b113 nin0))
      have hin127 : ¬ ((3 : Int32) < 0 ∨ cl127.slots.size ≤ ((3 : Int32)).toNatClampNeg) := inb_of S127 ⟨by decide, by decide⟩
      have hat127 := H127.at hin127 (v := (.ref b13)) rfl
      refine Runs.by (fun t hr => X116.aaload hx (j := (3 : Int32)) (v := (.ref b13)) (by exact Ar127.1) (State.isArrayOf_alike hZ.alike Ar127.2.1) rfl Ar127.2.2 hin127 hat127 (g := (mkF m 111 #[.val (.int p0), .val (.int p1), .val (.ref b1), .val (.ref b5), .val (.ref b9), .val (.ref b13), .val (.ref b17), .val (.ref b21), .val (.int (3 : Int32)), .val (.int (4 : Int32)), .val (.ref b113)] [(.int (3 : Int32)), (.ref b21)])) rfl rfl (hb hby at_111) t hr) ?_
      show Runs p e below _ (T116.setTop (mkF m 112 #[.val (.int p0), .val (.int p1), .val (.ref b1), .val (.ref b5), .val (.ref b9), .val (.ref b13), .val (.ref b17), .val (.ref b21), .val (.int (3 : Int32)), .val (.int (4 : Int32)), .val (.ref b113)] [(.ref b13)]))
      refine Runs.by (fun _ hr => XS.aload X116.here hx rfl (hb hby at_112) rfl rfl hr) ?_
      show Runs p e below _ (T116.setTop (mkF m 114 #[.val (.int p0), .val (.int p1), .val (.ref b1), .val (.ref b5), .val (.ref b9), .val (.ref b13), .val (.ref b17), .val (.ref b21), .val (.int (3 : Int32)), .val (.int (4 : Int32)), .val (.ref b113)] [(.ref b113), (.ref b13)]))
      obtain ⟨cq128, kq128, q128a, q128b, q128c⟩ := isOf hZ rfl ((((((((((f15_0.ext E17).keep Kq19).ext E21).wr W23).wr W25).wr W27).wr W29).wr W31).ext E113).keep Kq116)
      obtain ⟨_, _, ⟨T128, L128, k128, n128⟩, -, X128, ⟨Lc128, hQ128, l128, y128, z128⟩, st128⟩ := X116.virtualBack hx (y := (⟨"com/example/prorata/prorata/request/Form", "has", "(Lcom/example/prorata/prorata/request/Form$Field;)Z"⟩ : MethodName)) (z := (⟨"com/example/prorata/prorata/request/Form", "has", "(Lcom/example/prorata/prorata/request/Form$Field;)Z"⟩ : MethodName)) hown (mvT hZ (hw _ (List.mem_of_getElem? (i := 54) rfl))) (mvT hZ (hw _ (List.mem_of_getElem? (i := 55) rfl))) (notFace_of_selects (args := #[]) (mvT hZ (hw _ (List.mem_of_getElem? (i := 57) rfl)))) (mvT hZ (hw _ (List.mem_of_getElem? (i := 57) rfl))) (mvT hZ (hw _ (List.mem_of_getElem? (i := 56) rfl))) (by decide) (backOf (W := 0) (rm8_2 l Z a0 hw [] b13 b113 b17 b1 T116.heap n0 (Nat.le_trans Z0 K117.1) f116_0 f116_1 ((((((((((f15_0.ext E17).keep Kq19).ext E21).wr W23).wr W25).wr W27).wr W29).wr W31).ext E113).keep Kq116) ((((((((((f15_1.ext E17).keep Kq19 (ninS ne_b13_b17 nin0)).ext E21).other W23 (Or.inl ne_b13_b21)).other W25 (Or.inl ne_b13_b21)).other W27 (Or.inl ne_b13_b21)).other W29 (Or.inl ne_b13_b21)).other W31 (Or.inl ne_b13_b21)).ext E113).keep Kq116 (ninS ne_b13_b113 nin0)) ((((((((((((((((f3_0.ext E5).keep Kq7).ext E9).keep Kq11).ext E13).keep Kq15).ext E17).keep Kq19).ext E21).wr W23).wr W25).wr W27).wr W29).wr W31).ext E113).keep Kq116) ((((((((((((((((f3_1.ext E5).keep Kq7 (ninS ne_b1_b5 nin0)).ext E9).keep Kq11 (ninS ne_b1_b9 nin0)).ext E13).keep Kq15 (ninS ne_b1_b13 nin0)).ext E17).keep Kq19 (ninS ne_b1_b17 nin0)).ext E21).other W23 (Or.inl ne_b1_b21)).other W25 (Or.inl ne_b1_b21)).other W27 (Or.inl ne_b1_b21)).other W29 (Or.inl ne_b1_b21)).other W31 (Or.inl ne_b1_b21)).ext E113).keep Kq116 (ninS ne_b1_b113 nin0))) hZ (hw _ (List.mem_of_getElem? (i := 58) rfl)) (hw _ (List.mem_of_getElem? (i := 2) rfl)) (by decide) (by decide)) q128a q128c (g := (mkF m 114 #[.val (.int p0), .val (.int p1), .val (.ref b1), .val (.ref b5), .val (.ref b9), .val (.ref b13), .val (.ref b17), .val (.ref b21), .val (.int (3 : Int32)), .val (.int (4 : Int32)), .val (.ref b113)] [(.ref b113), (.ref b13)])) rfl (by rw [hml]; rfl) (Steps.refl _) (argsL := [(.ref b113)]) (rest := []) (lenOf pd_3 rfl) rfl (by show 2 * 0 + _ ≤ _; exact Nat.le_of_eq rfl) (hb hby at_114) (fun _ _ => ⟨rfl, rfl, (by decide : 12 + 0 ≤ _), (by decide : 58 + 0 ≤ _)⟩)
      dsimp only [Pt.U, Pt.locs, Pt.cells, Pt.slots] at X128 l128 y128 z128 st128 hQ128
      subst l128 y128 z128
      obtain ⟨rfl, Nq128, eq128⟩ := hQ128
      have N128 := Fr.app N116 Nq128
      refine Runs.by (fun _ hr => st128.trans hr) ?_
      rw [show own_has [b13, b1] b17 = (0 : Int32) from by simp [own_has, ((Ne.symm ne_b13_b17) : ¬ b17 = b13), ((Ne.symm ne_b1_b17) : ¬ b17 = b1)]]
      show Runs p e below _ (T128.setTop (mkF m 117 #[.val (.int p0), .val (.int p1), .val (.ref b1), .val (.ref b5), .val (.ref b9), .val (.ref b13), .val (.ref b17), .val (.ref b21), .val (.int (3 : Int32)), .val (.int (4 : Int32)), .val (.ref b113)] [(.int (0 : Int32))]))
      refine Runs.by (fun _ hr => XS.iload X128.here hx rfl (hb hby at_117) rfl  hr) ?_
      show Runs p e below _ (T128.setTop (mkF m 119 #[.val (.int p0), .val (.int p1), .val (.ref b1), .val (.ref b5), .val (.ref b9), .val (.ref b13), .val (.ref b17), .val (.ref b21), .val (.int (3 : Int32)), .val (.int (4 : Int32)), .val (.ref b113)] [(.int (3 : Int32)), (.int (0 : Int32))]))
      refine Runs.by (fun _ hr => XS.iload X128.here hx rfl (hb hby at_119) rfl  hr) ?_
      show Runs p e below _ (T128.setTop (mkF m 121 #[.val (.int p0), .val (.int p1), .val (.ref b1), .val (.ref b5), .val (.ref b9), .val (.ref b13), .val (.ref b17), .val (.ref b21), .val (.int (3 : Int32)), .val (.int (4 : Int32)), .val (.ref b113)] [(.int (4 : Int32)), (.int (3 : Int32)), (.int (0 : Int32))]))
      obtain ⟨_, _, ⟨T129, L129, k129, n129⟩, -, X129, ⟨Lc129, hQ129, l129, y129, z129⟩, st129⟩ := Jvm.LawKit.callS X128 hx (y := (⟨"com/example/prorata/prorata/request/FormHasPinLaw", "reaches", "(II)Z"⟩ : MethodName)) hown (mvT hZ (hw _ (List.mem_of_getElem? (i := 64) rfl))) (mvT hZ (hw _ (List.mem_of_getElem? (i := 65) rfl))) (mvT hZ (hw _ (List.mem_of_getElem? (i := 66) rfl))) (mvT hZ (hw _ (List.mem_of_getElem? (i := 67) rfl))) (by decide) (backOf (W := 1) (rm10 l Z a0 hw [] (3 : Int32) (4 : Int32)  T116.heap n0 (Nat.le_trans Z0 K117.1) ) hZ (hw _ (List.mem_of_getElem? (i := 67) rfl)) (hw _ (List.mem_of_getElem? (i := 66) rfl)) (by decide) (by decide)) (g := (mkF m 121 #[.val (.int p0), .val (.int p1), .val (.ref b1), .val (.ref b5), .val (.ref b9), .val (.ref b13), .val (.ref b17), .val (.ref b21), .val (.int (3 : Int32)), .val (.int (4 : Int32)), .val (.ref b113)] [(.int (4 : Int32)), (.int (3 : Int32)), (.int (0 : Int32))])) rfl (by rw [hml]; rfl) (argsL := [(.int (3 : Int32)), (.int (4 : Int32))]) (rest := [(.int (0 : Int32))]) (lenOf pd_5 rfl) rfl (by show 2 * 0 + _ ≤ _; exact Nat.le_of_eq rfl) (hb hby at_121) (fun _ _ => ⟨rfl, eq128, (by decide : 12 + 0 ≤ _), (by decide : 58 + 0 ≤ _)⟩)
      dsimp only [Pt.U, Pt.locs, Pt.cells, Pt.slots] at X129 l129 y129 z129 st129 hQ129
      subst l129 y129 z129
      obtain ⟨rfl, Nq129, eq129⟩ := hQ129
      have N129 := Fr.app N128 Nq129
      refine Runs.by (fun t hr => st129 t hr) ?_
      rw [show own_reach (3 : Int32) (4 : Int32) = (0 : Int32) from by decide]
      show Runs p e below _ (T129.setTop (mkF m 124 #[.val (.int p0), .val (.int p1), .val (.ref b1), .val (.ref b5), .val (.ref b9), .val (.ref b13), .val (.ref b17), .val (.ref b21), .val (.int (3 : Int32)), .val (.int (4 : Int32)), .val (.ref b113)] [(.int (0 : Int32)), (.int (0 : Int32))]))
      have hc124 : (0 : Int32) = (0 : Int32) := (by decide)
      refine Runs.by (fun _ hr => XS.icmpNo X129.here hx rfl (hb hby at_124) rfl (teq hc124).2 hr) ?_
      show Runs p e below _ (T129.setTop (mkF m 127 #[.val (.int p0), .val (.int p1), .val (.ref b1), .val (.ref b5), .val (.ref b9), .val (.ref b13), .val (.ref b17), .val (.ref b21), .val (.int (3 : Int32)), .val (.int (4 : Int32)), .val (.ref b113)] []))
      refine Runs.by (fun _ hr => XS.iconst X129.here hx rfl (hb hby at_127) hr) ?_
      show Runs p e below _ (T129.setTop (mkF m 128 #[.val (.int p0), .val (.int p1), .val (.ref b1), .val (.ref b5), .val (.ref b9), .val (.ref b13), .val (.ref b17), .val (.ref b21), .val (.int (3 : Int32)), .val (.int (4 : Int32)), .val (.ref b113)] [(.int (1 : Int32))]))
      refine Runs.by (fun _ hr => XS.goto X129.here hx rfl (pc0 := 128) (pc' := 132) rfl (hb hby at_128) (by decide) (by decide) hr) ?_
      show Runs p e below _ (T129.setTop (mkF m 132 #[.val (.int p0), .val (.int p1), .val (.ref b1), .val (.ref b5), .val (.ref b9), .val (.ref b13), .val (.ref b17), .val (.ref b21), .val (.int (3 : Int32)), .val (.int (4 : Int32)), .val (.ref b113)] [(.int (1 : Int32))]))
      refine Runs.ret X129 hx hrt hlk (Or.inl ⟨rfl, by simp, _, rfl⟩) (by rfl) (hb hby at_132) (by decide) (by decide) ?_
      rw [eq129]
      exact ⟨rfl, N129⟩
    · skip
      show Runs p e below _ (T116.setTop (mkF m 107 #[.val (.int p0), .val (.int p1), .val (.ref b1), .val (.ref b5), .val (.ref b9), .val (.ref b13), .val (.ref b17), .val (.ref b21), .val (.int (4 : Int32)), .val (.int (4 : Int32)), .val (.ref b113)] []))
      refine Runs.by (fun _ hr => XS.aload X116.here hx rfl (hb hby at_107) rfl rfl hr) ?_
      show Runs p e below _ (T116.setTop (mkF m 109 #[.val (.int p0), .val (.int p1), .val (.ref b1), .val (.ref b5), .val (.ref b9), .val (.ref b13), .val (.ref b17), .val (.ref b21), .val (.int (4 : Int32)), .val (.int (4 : Int32)), .val (.ref b113)] [(.ref b21)]))
      refine Runs.by (fun _ hr => XS.iload X116.here hx rfl (hb hby at_109) rfl  hr) ?_
      show Runs p e below _ (T116.setTop (mkF m 111 #[.val (.int p0), .val (.int p1), .val (.ref b1), .val (.ref b5), .val (.ref b9), .val (.ref b13), .val (.ref b17), .val (.ref b21), .val (.int (4 : Int32)), .val (.int (4 : Int32)), .val (.ref b113)] [(.int (4 : Int32)), (.ref b21)]))
      obtain ⟨cl130, Ar130, -, S130, N130', H130, -⟩ := id ((V31.ext E113).keep Kq116 (ninS ne_b21_b113 nin0))
      have hin130 : ¬ ((4 : Int32) < 0 ∨ cl130.slots.size ≤ ((4 : Int32)).toNatClampNeg) := inb_of S130 ⟨by decide, by decide⟩
      have hat130 := H130.at hin130 (v := (.ref b17)) rfl
      refine Runs.by (fun t hr => X116.aaload hx (j := (4 : Int32)) (v := (.ref b17)) (by exact Ar130.1) (State.isArrayOf_alike hZ.alike Ar130.2.1) rfl Ar130.2.2 hin130 hat130 (g := (mkF m 111 #[.val (.int p0), .val (.int p1), .val (.ref b1), .val (.ref b5), .val (.ref b9), .val (.ref b13), .val (.ref b17), .val (.ref b21), .val (.int (4 : Int32)), .val (.int (4 : Int32)), .val (.ref b113)] [(.int (4 : Int32)), (.ref b21)])) rfl rfl (hb hby at_111) t hr) ?_
      show Runs p e below _ (T116.setTop (mkF m 112 #[.val (.int p0), .val (.int p1), .val (.ref b1), .val (.ref b5), .val (.ref b9), .val (.ref b13), .val (.ref b17), .val (.ref b21), .val (.int (4 : Int32)), .val (.int (4 : Int32)), .val (.ref b113)] [(.ref b17)]))
      refine Runs.by (fun _ hr => XS.aload X116.here hx rfl (hb hby at_112) rfl rfl hr) ?_
      show Runs p e below _ (T116.setTop (mkF m 114 #[.val (.int p0), .val (.int p1), .val (.ref b1), .val (.ref b5), .val (.ref b9), .val (.ref b13), .val (.ref b17), .val (.ref b21), .val (.int (4 : Int32)), .val (.int (4 : Int32)), .val (.ref b113)] [(.ref b113), (.ref b17)]))
      obtain ⟨cq131, kq131, q131a, q131b, q131c⟩ := isOf hZ rfl ((((((((f19_0.ext E21).wr W23).wr W25).wr W27).wr W29).wr W31).ext E113).keep Kq116)
      obtain ⟨_, _, ⟨T131, L131, k131, n131⟩, -, X131, ⟨Lc131, hQ131, l131, y131, z131⟩, st131⟩ := X116.virtualBack hx (y := (⟨"com/example/prorata/prorata/request/Form", "has", "(Lcom/example/prorata/prorata/request/Form$Field;)Z"⟩ : MethodName)) (z := (⟨"com/example/prorata/prorata/request/Form", "has", "(Lcom/example/prorata/prorata/request/Form$Field;)Z"⟩ : MethodName)) hown (mvT hZ (hw _ (List.mem_of_getElem? (i := 54) rfl))) (mvT hZ (hw _ (List.mem_of_getElem? (i := 55) rfl))) (notFace_of_selects (args := #[]) (mvT hZ (hw _ (List.mem_of_getElem? (i := 57) rfl)))) (mvT hZ (hw _ (List.mem_of_getElem? (i := 57) rfl))) (mvT hZ (hw _ (List.mem_of_getElem? (i := 56) rfl))) (by decide) (backOf (W := 0) (rm8_1 l Z a0 hw [] b17 b113 b17 T116.heap n0 (Nat.le_trans Z0 K117.1) f116_0 f116_1 ((((((((f19_0.ext E21).wr W23).wr W25).wr W27).wr W29).wr W31).ext E113).keep Kq116) ((((((((f19_1.ext E21).other W23 (Or.inl ne_b17_b21)).other W25 (Or.inl ne_b17_b21)).other W27 (Or.inl ne_b17_b21)).other W29 (Or.inl ne_b17_b21)).other W31 (Or.inl ne_b17_b21)).ext E113).keep Kq116 (ninS ne_b17_b113 nin0))) hZ (hw _ (List.mem_of_getElem? (i := 58) rfl)) (hw _ (List.mem_of_getElem? (i := 2) rfl)) (by decide) (by decide)) q131a q131c (g := (mkF m 114 #[.val (.int p0), .val (.int p1), .val (.ref b1), .val (.ref b5), .val (.ref b9), .val (.ref b13), .val (.ref b17), .val (.ref b21), .val (.int (4 : Int32)), .val (.int (4 : Int32)), .val (.ref b113)] [(.ref b113), (.ref b17)])) rfl (by rw [hml]; rfl) (Steps.refl _) (argsL := [(.ref b113)]) (rest := []) (lenOf pd_3 rfl) rfl (by show 2 * 0 + _ ≤ _; exact Nat.le_of_eq rfl) (hb hby at_114) (fun _ _ => ⟨rfl, rfl, (by decide : 12 + 0 ≤ _), (by decide : 58 + 0 ≤ _)⟩)
      dsimp only [Pt.U, Pt.locs, Pt.cells, Pt.slots] at X131 l131 y131 z131 st131 hQ131
      subst l131 y131 z131
      obtain ⟨rfl, Nq131, eq131⟩ := hQ131
      have N131 := Fr.app N116 Nq131
      refine Runs.by (fun _ hr => st131.trans hr) ?_
      rw [show own_has [b17] b17 = (1 : Int32) from by simp [own_has]]
      show Runs p e below _ (T131.setTop (mkF m 117 #[.val (.int p0), .val (.int p1), .val (.ref b1), .val (.ref b5), .val (.ref b9), .val (.ref b13), .val (.ref b17), .val (.ref b21), .val (.int (4 : Int32)), .val (.int (4 : Int32)), .val (.ref b113)] [(.int (1 : Int32))]))
      refine Runs.by (fun _ hr => XS.iload X131.here hx rfl (hb hby at_117) rfl  hr) ?_
      show Runs p e below _ (T131.setTop (mkF m 119 #[.val (.int p0), .val (.int p1), .val (.ref b1), .val (.ref b5), .val (.ref b9), .val (.ref b13), .val (.ref b17), .val (.ref b21), .val (.int (4 : Int32)), .val (.int (4 : Int32)), .val (.ref b113)] [(.int (4 : Int32)), (.int (1 : Int32))]))
      refine Runs.by (fun _ hr => XS.iload X131.here hx rfl (hb hby at_119) rfl  hr) ?_
      show Runs p e below _ (T131.setTop (mkF m 121 #[.val (.int p0), .val (.int p1), .val (.ref b1), .val (.ref b5), .val (.ref b9), .val (.ref b13), .val (.ref b17), .val (.ref b21), .val (.int (4 : Int32)), .val (.int (4 : Int32)), .val (.ref b113)] [(.int (4 : Int32)), (.int (4 : Int32)), (.int (1 : Int32))]))
      obtain ⟨_, _, ⟨T132, L132, k132, n132⟩, -, X132, ⟨Lc132, hQ132, l132, y132, z132⟩, st132⟩ := Jvm.LawKit.callS X131 hx (y := (⟨"com/example/prorata/prorata/request/FormHasPinLaw", "reaches", "(II)Z"⟩ : MethodName)) hown (mvT hZ (hw _ (List.mem_of_getElem? (i := 64) rfl))) (mvT hZ (hw _ (List.mem_of_getElem? (i := 65) rfl))) (mvT hZ (hw _ (List.mem_of_getElem? (i := 66) rfl))) (mvT hZ (hw _ (List.mem_of_getElem? (i := 67) rfl))) (by decide) (backOf (W := 1) (rm10 l Z a0 hw [] (4 : Int32) (4 : Int32)  T116.heap n0 (Nat.le_trans Z0 K117.1) ) hZ (hw _ (List.mem_of_getElem? (i := 67) rfl)) (hw _ (List.mem_of_getElem? (i := 66) rfl)) (by decide) (by decide)) (g := (mkF m 121 #[.val (.int p0), .val (.int p1), .val (.ref b1), .val (.ref b5), .val (.ref b9), .val (.ref b13), .val (.ref b17), .val (.ref b21), .val (.int (4 : Int32)), .val (.int (4 : Int32)), .val (.ref b113)] [(.int (4 : Int32)), (.int (4 : Int32)), (.int (1 : Int32))])) rfl (by rw [hml]; rfl) (argsL := [(.int (4 : Int32)), (.int (4 : Int32))]) (rest := [(.int (1 : Int32))]) (lenOf pd_5 rfl) rfl (by show 2 * 0 + _ ≤ _; exact Nat.le_of_eq rfl) (hb hby at_121) (fun _ _ => ⟨rfl, eq131, (by decide : 12 + 0 ≤ _), (by decide : 58 + 0 ≤ _)⟩)
      dsimp only [Pt.U, Pt.locs, Pt.cells, Pt.slots] at X132 l132 y132 z132 st132 hQ132
      subst l132 y132 z132
      obtain ⟨rfl, Nq132, eq132⟩ := hQ132
      have N132 := Fr.app N131 Nq132
      refine Runs.by (fun t hr => st132 t hr) ?_
      rw [show own_reach (4 : Int32) (4 : Int32) = (1 : Int32) from by decide]
      show Runs p e below _ (T132.setTop (mkF m 124 #[.val (.int p0), .val (.int p1), .val (.ref b1), .val (.ref b5), .val (.ref b9), .val (.ref b13), .val (.ref b17), .val (.ref b21), .val (.int (4 : Int32)), .val (.int (4 : Int32)), .val (.ref b113)] [(.int (1 : Int32)), (.int (1 : Int32))]))
      have hc124 : (1 : Int32) = (1 : Int32) := (by decide)
      refine Runs.by (fun _ hr => XS.icmpNo X132.here hx rfl (hb hby at_124) rfl (teq hc124).2 hr) ?_
      show Runs p e below _ (T132.setTop (mkF m 127 #[.val (.int p0), .val (.int p1), .val (.ref b1), .val (.ref b5), .val (.ref b9), .val (.ref b13), .val (.ref b17), .val (.ref b21), .val (.int (4 : Int32)), .val (.int (4 : Int32)), .val (.ref b113)] []))
      refine Runs.by (fun _ hr => XS.iconst X132.here hx rfl (hb hby at_127) hr) ?_
      show Runs p e below _ (T132.setTop (mkF m 128 #[.val (.int p0), .val (.int p1), .val (.ref b1), .val (.ref b5), .val (.ref b9), .val (.ref b13), .val (.ref b17), .val (.ref b21), .val (.int (4 : Int32)), .val (.int (4 : Int32)), .val (.ref b113)] [(.int (1 : Int32))]))
      refine Runs.by (fun _ hr => XS.goto X132.here hx rfl (pc0 := 128) (pc' := 132) rfl (hb hby at_128) (by decide) (by decide) hr) ?_
      show Runs p e below _ (T132.setTop (mkF m 132 #[.val (.int p0), .val (.int p1), .val (.ref b1), .val (.ref b5), .val (.ref b9), .val (.ref b13), .val (.ref b17), .val (.ref b21), .val (.int (4 : Int32)), .val (.int (4 : Int32)), .val (.ref b113)] [(.int (1 : Int32))]))
      refine Runs.ret X132 hx hrt hlk (Or.inl ⟨rfl, by simp, _, rfl⟩) (by rfl) (hb hby at_132) (by decide) (by decide) ?_
      rw [eq132]
      exact ⟨rfl, N132⟩
set_option maxRecDepth 65536 in
set_option maxHeartbeats 40000000 in
theorem comes_1 {Post : Tables → Env → Array Value → State → Outcome → State → Prop} (hpost : ∀ tb e args s v u, (limb_1_1.after args s (.returned v) u = true ∧ limb_1_2.after args s (.returned v) u = true ∧ True) → FrameEnd s (.returned v) u (Jvm.fieldLocs frame_1_writes args s ++ Jvm.arrayLocs frame_1_arrays args s ++ Jvm.staticLocs frame_1_statics s) 32 192 → Post tb e args s (.returned v) u) :
    ArmFor flags0 classFile x code maxLocals ret World_1 tables_1 room_1 Calls_1 rest_1 Pre_1 Post := by
  intro l hfl _ _ p e ha hc hk s m args below hf hA hF happ hP
  obtain ⟨hcalls, hrest, hpre⟩ := hP
  obtain ⟨-, -, -, hnamed, -, -, -, hat⟩ := (Spec.applies_iff hf).mp happ
  obtain ⟨hg, hn⟩ := and_e (Cond.before_iff.mp (show (Jvm.Cond.and given_1 narrow_1).before args s = true from hpre))
  obtain ⟨g1, g2⟩ := and_e hg
  obtain ⟨g3, g4⟩ := and_e g2
  obtain ⟨w0, w1, rfl⟩ : ∃ w0 w1 : Value, args = #[w0, w1] := by
    have hs : args.size = 2 := by simpa [Cond.value, given_1] using g1
    obtain ⟨L⟩ := args
    match L, hs with
    | [w0, w1], _ => exact ⟨w0, w1, rfl⟩
  have hw := fun d (hd : d ∈ tables_1) => atoms_spec (ws := Jvm.Cond.code x code maxLocals ret :: tables_1) hat d (List.mem_cons_of_mem _ hd)
  have hfit : Fit s := fun {y c} hc i hi => by
    obtain ⟨ha, rfl⟩ := Array.getElem?_eq_some_iff.mp hc
    have q := List.all_eq_true.mp ((Array.all_eq_true_iff_forall_mem.mp hF) _ (Array.getElem_mem ha)) i (List.mem_range.mpr hi)
    simpa [Array.getElem?_eq_getElem hi] using q
  obtain ⟨i0, ei0⟩ := is_v g3
  obtain rfl : w0 = (.int i0) := Option.some.inj ei0
  obtain ⟨i1, ei1⟩ := is_v g4
  obtain rfl : w1 = (.int i1) := Option.some.inj ei1
  obtain ⟨n, o, h1, h2, h3, _, L, rfl, ⟨rfl, N⟩, hq⟩ := rm0 l s _ hw tables_1 i0 i1 s.heap s.heap.size (Nat.le_refl _)  p e ha hc hk s m _ below hf ((Spec.applies_iff_loose hf).mp happ).1 ⟨rfl, State.Warmed39.refl s, rfl⟩ trivial
  refine ⟨n, _, h1, h2, h3, hpost _ _ _ _ _ _ ⟨Cond.after_iff.mpr rfl, Cond.after_iff.mpr (eq_i res_at (Term.int_eval (1)) rfl), trivial⟩ ⟨hq.1, hq.2.1, (hq.2.2.sift fun y hy => Or.inr (N y hy)).mono (by decide) (by decide)⟩⟩
theorem main_1_1 : Claimed_1_1 := comes_1 fun _ _ _ _ _ _ h hF => ⟨h.1, hF⟩
theorem main_1_2 : Claimed_1_2 := comes_1 fun _ _ _ _ _ _ h hF => ⟨h.2.1, hF⟩
end Jvm.Pilot.@@N@@
namespace Jvm.Pilot.@@N@@
open Jvm Jvm.ClassFile Sem Op Lib Jvm.Free Jvm.Stand Jvm.Pilot.@@N@@.Jvm.D
/-! MADE BY PROGRAM (witnessworld.py) out of the Statement's table words and the real class files: 15 classes; the members and pool entries that the words name. The judged class is class 1, her method 2. -/
namespace start1
open Jvm.ClassFile
def u (s : String) : CpInfo := .utf8 (stringToUtf16 s)
/-- a pool by its gaps: so many unusable entries, then the entry; so many at the end -/
def gap : Nat → List CpInfo → List CpInfo
  | 0, r => r
  | n + 1, r => .unusable :: gap n r
def poolList (es : List (Nat × CpInfo)) (last : Nat) : List CpInfo := es.foldr (fun e r => gap e.1 (e.2 :: r)) (gap last [])
def pool (es : List (Nat × CpInfo)) (last : Nat) : Array CpInfo := ⟨poolList es last⟩
def fileOf (pool : Array CpInfo) (this : Nat) (attrs : Array Attribute := #[]) (ms : Array MethodInfo := #[]) (fl : Nat := 33) (sup : Nat := 0) (ifs : Array Nat := #[]) (fds : Array FieldInfo := #[]) : ClassFile where
  minorVersion := 0
  majorVersion := 65
  constantPool := pool
  accessFlags := fl
  thisClass := this
  superClass := sup
  interfaces := ifs
  fields := fds
  methods := ms
  attributes := attrs
def plain (name : String) (sup : Option ClassId) : Class where
  name := name
  kind := .ordinary
  loader := none
  accessFlags := 33
  super := sup
  interfaces := #[]
  cf := none
  fields := #[]
  methods := #[]
  instanceTypes := #[]
  staticTypes := #[]
  resolved := #[]
  callSites := []
  init := .initialized
  statics := none
  mirror := none

def pool0 : Array CpInfo := pool [(5, u "<init>"), (0, u "()V"), (1, .class_ 10), (1, u "java/lang/Object")] 113

def k0c0 : Code := { maxStack := 0, maxLocals := 1, code := object_method_1_code, exceptionTable := #[], attributes := #[] }
def k0m0 : Method := { name := "<init>", desc := "()V", sig := { parameters := [], returnType := none }, accessFlags := 1, code := some k0c0 }
/-- java/lang/Object -/
def k0 : Class := { plain "java/lang/Object" none with
  accessFlags := 33
  interfaces := #[]
  cf := some (fileOf pool0 8 #[] #[{ accessFlags := 1, nameIndex := 5, descriptorIndex := 6, attributes := #[] }] 33 0 #[] #[])
  fields := #[]
  methods := #[k0m0]
  instanceTypes := #[]
  staticTypes := #[]
  resolved := Array.replicate 124 none
  statics := none }

def pool1 : Array CpInfo := pool [(2, .class_ 4), (0, .nameAndType 5 6), (0, u "java/lang/Object"), (0, u "<init>"), (0, u "()V"), (0, .class_ 8), (0, u "com/example/prorata/prorata/request/Form"), (0, .methodref 7 3), (0, .methodref 7 11), (0, .nameAndType 5 12), (0, u "(Lcom/example/prorata/prorata/request/Form;)V"), (0, .integer 2147483647), (0, .class_ 15), (0, u "com/example/prorata/prorata/request/Form$Field"), (0, .methodref 14 17), (0, .nameAndType 5 18), (0, u "(Lcom/example/prorata/prorata/request/Form;Ljava/lang/String;Lcom/example/prorata/prorata/request/Form;)V"), (0, .methodref 7 20), (0, .nameAndType 21 22), (0, u "has"), (0, u "(Lcom/example/prorata/prorata/request/Form$Field;)Z"), (0, .methodref 24 25), (0, .class_ 26), (0, .nameAndType 27 28), (0, u "com/example/prorata/prorata/request/FormHasPinLaw"), (0, u "reaches"), (0, u "(II)Z"), (3, u "law")] 6

def k1m0 : Method := { name := "<init>", desc := "()V", sig := { parameters := [], returnType := none }, accessFlags := 2, code := none }
def k1c1 : Code := { maxStack := 2, maxLocals := 2, code := method_2_code, exceptionTable := #[], attributes := #[] }
def k1m1 : Method := { name := "reaches", desc := "(II)Z", sig := { parameters := [.int, .int], returnType := some .boolean }, accessFlags := 10, code := some k1c1 }
def k1c2 : Code := { maxStack := 5, maxLocals := 11, code := code, exceptionTable := #[], attributes := #[] }
def k1m2 : Method := { name := "law", desc := "(II)Z", sig := { parameters := [.int, .int], returnType := some .boolean }, accessFlags := 9, code := some k1c2 }
/-- com/example/prorata/prorata/request/FormHasPinLaw -/
def k1 : Class := { plain "com/example/prorata/prorata/request/FormHasPinLaw" (some 0) with
  accessFlags := 49
  interfaces := #[]
  cf := some (fileOf pool1 24 #[] #[{ accessFlags := 2, nameIndex := 5, descriptorIndex := 6, attributes := #[] }, { accessFlags := 10, nameIndex := 27, descriptorIndex := 28, attributes := #[] }, { accessFlags := 9, nameIndex := 32, descriptorIndex := 28, attributes := #[] }] 49 2 #[] #[])
  fields := #[]
  methods := #[k1m0, k1m1, k1m2]
  instanceTypes := #[]
  staticTypes := #[]
  resolved := Array.replicate 39 none
  statics := none }

def pool2 : Array CpInfo := pool [(1, .methodref 2 3), (0, .class_ 4), (0, .nameAndType 5 6), (0, u "com/example/prorata/prorata/request/Form"), (0, u "<init>"), (0, u "(Lcom/example/prorata/prorata/request/Form;)V"), (0, .methodref 8 9), (0, .class_ 10), (0, .nameAndType 5 11), (0, u "java/lang/Object"), (0, u "()V"), (0, .class_ 13), (0, u "java/util/HashMap"), (0, .methodref 12 9), (0, .fieldref 2 16), (0, .nameAndType 17 18), (0, u "fields"), (0, u "Ljava/util/Map;"), (0, .fieldref 2 20), (0, .nameAndType 21 22), (0, u "base"), (0, u "Lcom/example/prorata/prorata/request/Form;"), (17, .class_ 41), (0, u "com/example/prorata/prorata/request/Form$Field"), (12, .methodref 40 55), (0, .nameAndType 56 57), (0, u "form"), (0, u "()Lcom/example/prorata/prorata/request/Form;"), (0, .methodref 2 59), (0, .nameAndType 60 61), (0, u "has"), (0, u "(Lcom/example/prorata/prorata/request/Form$Field;)Z")] 24

def k2c0 : Code := { maxStack := 2, maxLocals := 1, code := prog_21_method_1_code, exceptionTable := #[], attributes := #[] }
def k2m0 : Method := { name := "<init>", desc := "()V", sig := { parameters := [], returnType := none }, accessFlags := 0, code := some k2c0 }
def k2c1 : Code := { maxStack := 3, maxLocals := 2, code := prog_21_method_2_code, exceptionTable := #[], attributes := #[] }
def k2m1 : Method := { name := "<init>", desc := "(Lcom/example/prorata/prorata/request/Form;)V", sig := { parameters := [(.object "com/example/prorata/prorata/request/Form")], returnType := none }, accessFlags := 0, code := some k2c1 }
def k2c2 : Code := { maxStack := 2, maxLocals := 2, code := prog_21_method_6_code, exceptionTable := #[], attributes := #[] }
def k2m2 : Method := { name := "has", desc := "(Lcom/example/prorata/prorata/request/Form$Field;)Z", sig := { parameters := [(.object "com/example/prorata/prorata/request/Form$Field")], returnType := some .boolean }, accessFlags := 0, code := some k2c2 }
/-- com/example/prorata/prorata/request/Form -/
def k2 : Class := { plain "com/example/prorata/prorata/request/Form" (some 0) with
  accessFlags := 48
  interfaces := #[]
  cf := some (fileOf pool2 2 #[.nestMembers #[40]] #[{ accessFlags := 0, nameIndex := 5, descriptorIndex := 11, attributes := #[] }, { accessFlags := 0, nameIndex := 5, descriptorIndex := 6, attributes := #[] }, { accessFlags := 0, nameIndex := 60, descriptorIndex := 61, attributes := #[] }] 48 8 #[] #[{ accessFlags := 18, nameIndex := 17, descriptorIndex := 18, attributes := #[] }, { accessFlags := 18, nameIndex := 21, descriptorIndex := 22, attributes := #[] }])
  fields := #[{ name := "fields", type := (.object "java/util/Map"), accessFlags := 18, slot := 0, constantValue := 0 }, { name := "base", type := (.object "com/example/prorata/prorata/request/Form"), accessFlags := 18, slot := 1, constantValue := 0 }]
  methods := #[k2m0, k2m1, k2m2]
  instanceTypes := #[(.object "java/util/Map"), (.object "com/example/prorata/prorata/request/Form")]
  staticTypes := #[]
  resolved := Array.replicate 86 none
  statics := none }

def pool3 : Array CpInfo := pool [(2, .class_ 4), (1, u "java/util/Map"), (31, .class_ 37), (0, u "java/util/Map$Entry"), (55, .class_ 94), (0, u "java/lang/Object")] 168

/-- java/util/Map -/
def k3 : Class := { plain "java/util/Map" (some 0) with
  accessFlags := 1537
  interfaces := #[]
  cf := some (fileOf pool3 2 #[.nestMembers #[36]] #[] 1537 93 #[] #[])
  fields := #[]
  methods := #[]
  instanceTypes := #[]
  staticTypes := #[]
  resolved := Array.replicate 263 none
  statics := none }

def pool4 : Array CpInfo := pool [(1, .methodref 2 3), (0, .class_ 4), (0, .nameAndType 5 6), (0, u "java/lang/Object"), (0, u "<init>"), (0, u "()V"), (1, .class_ 10), (1, u "java/util/AbstractMap"), (42, .class_ 54), (0, u "java/util/Map"), (9, u "keySet"), (0, u "Ljava/util/Set;"), (0, .class_ 67), (0, u "java/util/AbstractMap$1"), (5, u "values"), (0, u "Ljava/util/Collection;"), (0, .class_ 76), (0, u "java/util/AbstractMap$2"), (104, .class_ 182), (0, u "java/util/AbstractMap$ViewCollection"), (0, .class_ 184), (0, u "java/util/AbstractMap$SimpleImmutableEntry"), (0, .class_ 186), (0, u "java/util/AbstractMap$SimpleEntry"), (0, .class_ 188), (0, u "java/util/AbstractMap$2$1"), (0, .class_ 190), (0, u "java/util/AbstractMap$1$1")] 5

def k4c0 : Code := { maxStack := 1, maxLocals := 1, code := jdk_71_method_1_code, exceptionTable := #[], attributes := #[] }
def k4m0 : Method := { name := "<init>", desc := "()V", sig := { parameters := [], returnType := none }, accessFlags := 4, code := some k4c0 }
/-- java/util/AbstractMap -/
def k4 : Class := { plain "java/util/AbstractMap" (some 0) with
  accessFlags := 1057
  interfaces := #[3]
  cf := some (fileOf pool4 8 #[.nestMembers #[181, 183, 185, 75, 187, 66, 189]] #[{ accessFlags := 4, nameIndex := 5, descriptorIndex := 6, attributes := #[] }] 1057 2 #[53] #[{ accessFlags := 128, nameIndex := 64, descriptorIndex := 65, attributes := #[] }, { accessFlags := 128, nameIndex := 73, descriptorIndex := 74, attributes := #[] }])
  fields := #[{ name := "keySet", type := (.object "java/util/Set"), accessFlags := 128, slot := 0, constantValue := 0 }, { name := "values", type := (.object "java/util/Collection"), accessFlags := 128, slot := 1, constantValue := 0 }]
  methods := #[k4m0]
  instanceTypes := #[(.object "java/util/Set"), (.object "java/util/Collection")]
  staticTypes := #[]
  resolved := Array.replicate 196 none
  statics := none }

def pool5 : Array CpInfo := pool [(1, .class_ 2), (0, u "java/lang/Cloneable"), (0, .class_ 4), (0, u "java/lang/Object")] 2

/-- java/lang/Cloneable -/
def k5 : Class := { plain "java/lang/Cloneable" (some 0) with
  accessFlags := 1537
  interfaces := #[]
  cf := some (fileOf pool5 1 #[] #[] 1537 3 #[] #[])
  fields := #[]
  methods := #[]
  instanceTypes := #[]
  staticTypes := #[]
  resolved := Array.replicate 7 none
  statics := none }

def pool6 : Array CpInfo := pool [(1, .class_ 2), (0, u "java/io/Serializable"), (0, .class_ 4), (0, u "java/lang/Object")] 2

/-- java/io/Serializable -/
def k6 : Class := { plain "java/io/Serializable" (some 0) with
  accessFlags := 1537
  interfaces := #[]
  cf := some (fileOf pool6 1 #[] #[] 1537 3 #[] #[])
  fields := #[]
  methods := #[]
  instanceTypes := #[]
  staticTypes := #[]
  resolved := Array.replicate 7 none
  statics := none }

def pool7 : Array CpInfo := pool [(40, .class_ 41), (0, u "java/util/HashMap"), (1, .methodref 44 45), (0, .class_ 46), (0, .nameAndType 47 48), (0, u "java/util/AbstractMap"), (0, u "<init>"), (0, u "()V"), (32, .fieldref 40 82), (0, .nameAndType 83 84), (0, u "loadFactor"), (0, u "F"), (5, u "threshold"), (0, u "I"), (0, .float 1061158912), (8, .class_ 103), (1, u "java/util/Map"), (0, u "size"), (2, u "table"), (0, u "[Ljava/util/HashMap$Node;"), (14, u "entrySet"), (39, .class_ 165), (1, u "java/util/HashMap$Node"), (14, .class_ 181), (0, u "java/util/HashMap$TreeNode"), (22, u "modCount"), (37, u "Ljava/util/Set;"), (0, .class_ 244), (0, u "java/util/HashMap$KeySet"), (18, .class_ 264), (0, u "java/util/HashMap$Values"), (3, .class_ 269), (0, u "java/util/HashMap$EntrySet"), (76, .class_ 348), (1, u "java/util/HashMap$UnsafeHolder"), (43, .class_ 393), (0, u "java/lang/Cloneable"), (0, .class_ 395), (0, u "java/io/Serializable"), (0, u "serialVersionUID"), (0, u "J"), (3, u "DEFAULT_INITIAL_CAPACITY"), (1, u "MAXIMUM_CAPACITY"), (0, u "DEFAULT_LOAD_FACTOR"), (0, u "TREEIFY_THRESHOLD"), (1, u "UNTREEIFY_THRESHOLD"), (1, u "MIN_TREEIFY_CAPACITY"), (186, .class_ 597), (0, u "java/util/HashMap$EntrySpliterator"), (0, .class_ 599), (0, u "java/util/HashMap$ValueSpliterator"), (0, .class_ 601), (0, u "java/util/HashMap$KeySpliterator"), (0, .class_ 603), (0, u "java/util/HashMap$HashMapSpliterator"), (0, .class_ 605), (0, u "java/util/HashMap$EntryIterator"), (0, .class_ 607), (0, u "java/util/HashMap$ValueIterator"), (0, .class_ 609), (0, u "java/util/HashMap$KeyIterator"), (0, .class_ 611), (0, u "java/util/HashMap$HashIterator")] 17

def k7c0 : Code := { maxStack := 2, maxLocals := 1, code := jdk_69_method_7_code, exceptionTable := #[], attributes := #[] }
def k7m0 : Method := { name := "<init>", desc := "()V", sig := { parameters := [], returnType := none }, accessFlags := 1, code := some k7c0 }
/-- java/util/HashMap -/
def k7 : Class := { plain "java/util/HashMap" (some 4) with
  accessFlags := 33
  interfaces := #[3, 5, 6]
  cf := some (fileOf pool7 40 #[.nestMembers #[180, 596, 598, 600, 602, 604, 606, 608, 610, 346, 268, 263, 243, 163]] #[{ accessFlags := 1, nameIndex := 47, descriptorIndex := 48, attributes := #[] }] 33 44 #[101, 392, 394] #[{ accessFlags := 26, nameIndex := 396, descriptorIndex := 397, attributes := #[] }, { accessFlags := 24, nameIndex := 401, descriptorIndex := 91, attributes := #[] }, { accessFlags := 24, nameIndex := 403, descriptorIndex := 91, attributes := #[] }, { accessFlags := 24, nameIndex := 404, descriptorIndex := 84, attributes := #[] }, { accessFlags := 24, nameIndex := 405, descriptorIndex := 91, attributes := #[] }, { accessFlags := 24, nameIndex := 407, descriptorIndex := 91, attributes := #[] }, { accessFlags := 24, nameIndex := 409, descriptorIndex := 91, attributes := #[] }, { accessFlags := 128, nameIndex := 107, descriptorIndex := 108, attributes := #[] }, { accessFlags := 128, nameIndex := 123, descriptorIndex := 242, attributes := #[] }, { accessFlags := 128, nameIndex := 104, descriptorIndex := 91, attributes := #[] }, { accessFlags := 128, nameIndex := 204, descriptorIndex := 91, attributes := #[] }, { accessFlags := 0, nameIndex := 90, descriptorIndex := 91, attributes := #[] }, { accessFlags := 16, nameIndex := 83, descriptorIndex := 84, attributes := #[] }])
  fields := #[{ name := "serialVersionUID", type := .long, accessFlags := 26, slot := 0, constantValue := 0 }, { name := "DEFAULT_INITIAL_CAPACITY", type := .int, accessFlags := 24, slot := 1, constantValue := 0 }, { name := "MAXIMUM_CAPACITY", type := .int, accessFlags := 24, slot := 2, constantValue := 0 }, { name := "DEFAULT_LOAD_FACTOR", type := .float, accessFlags := 24, slot := 3, constantValue := 0 }, { name := "TREEIFY_THRESHOLD", type := .int, accessFlags := 24, slot := 4, constantValue := 0 }, { name := "UNTREEIFY_THRESHOLD", type := .int, accessFlags := 24, slot := 5, constantValue := 0 }, { name := "MIN_TREEIFY_CAPACITY", type := .int, accessFlags := 24, slot := 6, constantValue := 0 }, { name := "table", type := (.array (.object "java/util/HashMap$Node")), accessFlags := 128, slot := 2, constantValue := 0 }, { name := "entrySet", type := (.object "java/util/Set"), accessFlags := 128, slot := 3, constantValue := 0 }, { name := "size", type := .int, accessFlags := 128, slot := 4, constantValue := 0 }, { name := "modCount", type := .int, accessFlags := 128, slot := 5, constantValue := 0 }, { name := "threshold", type := .int, accessFlags := 0, slot := 6, constantValue := 0 }, { name := "loadFactor", type := .float, accessFlags := 16, slot := 7, constantValue := 0 }]
  methods := #[k7m0]
  instanceTypes := #[(.object "java/util/Set"), (.object "java/util/Collection"), (.array (.object "java/util/HashMap$Node")), (.object "java/util/Set"), .int, .int, .int, .float]
  staticTypes := #[.long, .int, .int, .float, .int, .int, .int]
  resolved := Array.replicate 629 none
  statics := none }

def pool8 : Array CpInfo := pool [(1, .methodref 2 3), (0, .class_ 4), (0, .nameAndType 5 6), (0, u "java/lang/Object"), (0, u "<init>"), (0, u "()V"), (0, .class_ 8), (0, u "java/lang/Record")] 13

def k8c0 : Code := { maxStack := 1, maxLocals := 1, code := jdk_30_method_1_code, exceptionTable := #[], attributes := #[] }
def k8m0 : Method := { name := "<init>", desc := "()V", sig := { parameters := [], returnType := none }, accessFlags := 4, code := some k8c0 }
/-- java/lang/Record -/
def k8 : Class := { plain "java/lang/Record" (some 0) with
  accessFlags := 1057
  interfaces := #[]
  cf := some (fileOf pool8 7 #[] #[{ accessFlags := 4, nameIndex := 5, descriptorIndex := 6, attributes := #[] }] 1057 2 #[] #[])
  fields := #[]
  methods := #[k8m0]
  instanceTypes := #[]
  staticTypes := #[]
  resolved := Array.replicate 22 none
  statics := none }

def pool9 : Array CpInfo := pool [(1, .methodref 2 3), (0, .class_ 4), (0, .nameAndType 5 6), (0, u "java/lang/Record"), (0, u "<init>"), (0, u "()V"), (0, .fieldref 8 9), (0, .class_ 10), (0, .nameAndType 11 12), (0, u "com/example/prorata/prorata/request/Form$Field"), (0, u "form"), (0, u "Lcom/example/prorata/prorata/request/Form;"), (0, .fieldref 8 14), (0, .nameAndType 15 16), (0, u "name"), (0, u "Ljava/lang/String;"), (0, .fieldref 8 18), (0, .nameAndType 19 12), (0, u "holds"), (12, u "(Lcom/example/prorata/prorata/request/Form;Ljava/lang/String;Lcom/example/prorata/prorata/request/Form;)V"), (6, u "()Lcom/example/prorata/prorata/request/Form;"), (3, .class_ 44), (0, u "com/example/prorata/prorata/request/Form")] 21

def k9c0 : Code := { maxStack := 2, maxLocals := 4, code := prog_22_method_1_code, exceptionTable := #[], attributes := #[] }
def k9m0 : Method := { name := "<init>", desc := "(Lcom/example/prorata/prorata/request/Form;Ljava/lang/String;Lcom/example/prorata/prorata/request/Form;)V", sig := { parameters := [(.object "com/example/prorata/prorata/request/Form"), (.object "java/lang/String"), (.object "com/example/prorata/prorata/request/Form")], returnType := none }, accessFlags := 0, code := some k9c0 }
def k9c1 : Code := { maxStack := 1, maxLocals := 1, code := prog_22_method_5_code, exceptionTable := #[], attributes := #[] }
def k9m1 : Method := { name := "form", desc := "()Lcom/example/prorata/prorata/request/Form;", sig := { parameters := [], returnType := some (.object "com/example/prorata/prorata/request/Form") }, accessFlags := 1, code := some k9c1 }
/-- com/example/prorata/prorata/request/Form$Field -/
def k9 : Class := { plain "com/example/prorata/prorata/request/Form$Field" (some 8) with
  accessFlags := 48
  interfaces := #[]
  cf := some (fileOf pool9 8 #[.nestHost 43] #[{ accessFlags := 0, nameIndex := 5, descriptorIndex := 32, attributes := #[] }, { accessFlags := 1, nameIndex := 11, descriptorIndex := 39, attributes := #[] }] 48 2 #[] #[{ accessFlags := 18, nameIndex := 11, descriptorIndex := 12, attributes := #[] }, { accessFlags := 18, nameIndex := 15, descriptorIndex := 16, attributes := #[] }, { accessFlags := 18, nameIndex := 19, descriptorIndex := 12, attributes := #[] }])
  fields := #[{ name := "form", type := (.object "com/example/prorata/prorata/request/Form"), accessFlags := 18, slot := 0, constantValue := 0 }, { name := "name", type := (.object "java/lang/String"), accessFlags := 18, slot := 1, constantValue := 0 }, { name := "holds", type := (.object "com/example/prorata/prorata/request/Form"), accessFlags := 18, slot := 2, constantValue := 0 }]
  methods := #[k9m0, k9m1]
  instanceTypes := #[(.object "com/example/prorata/prorata/request/Form"), (.object "java/lang/String"), (.object "com/example/prorata/prorata/request/Form")]
  staticTypes := #[]
  resolved := Array.replicate 66 none
  statics := none }

/-- the primitive byte -/
def k10 : Class := { plain "byte" none with kind := .primitive 'B', accessFlags := 0x411 }
/-- [B -/
def k11 : Class := { plain "[B" (some 0) with kind := .array 10 .byte, interfaces := #[5, 6], accessFlags := 1041 }

/-- the primitive int -/
def k12 : Class := { plain "int" none with kind := .primitive 'I', accessFlags := 0x411 }
/-- [I -/
def k13 : Class := { plain "[I" (some 0) with kind := .array 12 .int, interfaces := #[5, 6], accessFlags := 1041 }

/-- [Lcom/example/prorata/prorata/request/Form; -/
def k14 : Class := { plain "[Lcom/example/prorata/prorata/request/Form;" (some 0) with kind := .array 2 (.object "com/example/prorata/prorata/request/Form"), interfaces := #[5, 6], accessFlags := 1041 }

def heap : Heap := #[]
def classes : Array Class := #[k0, k1, k2, k3, k4, k5, k6, k7, k8, k9, k10, k11, k12, k13, k14]
def interned : List (Array UInt16 × Addr) := []
def slotsUsed : Nat := 0
def theMethod : MethodId := ⟨1, 2⟩
def args0 : Array Value := #[.int 3, .int 5]
def aboutOver (below : List Frame) : State where
  vm := { classes := classes, interned := interned.toArray }
  heap := heap
  slotsUsed := slotsUsed
  threads := #[{ frames := .invoking theMethod args0 :: below }]
def below0 : List Frame := [.native { method := ⟨0, 0⟩, args := #[] }]
def about1 : State := aboutOver below0
def p0 : Program := .bare "" "" ""
def e0 : Env := launch0.env 0 0 0
theorem w_frames : about1.frames = Frame.invoking theMethod args0 :: below0 := rfl
set_option maxRecDepth 65536 in
theorem w_args : argsFit about1.vm theMethod args0 = true := by decide +kernel
set_option maxRecDepth 65536 in
theorem w_heap : heapFits about1 = true := by decide +kernel
set_option maxRecDepth 65536 in
theorem w_runnable : about1.curStatus? = some .runnable := by decide +kernel
set_option maxRecDepth 65536 in
theorem w_alone : about1.alone = true := by decide +kernel
set_option maxRecDepth 65536 in
theorem w_named : about1.methodNamed? x = some theMethod := by decide +kernel
set_option maxRecDepth 65536 in
theorem w_hears : about1.hears theMethod below0 = true := by decide +kernel
set_option maxRecDepth 65536 in
theorem w_ripe : about1.ripe theMethod args0 below0 = true := by decide +kernel
theorem w_running : about1.status = .running := rfl
set_option maxRecDepth 65536 in
theorem w_room : about1.hasRoom e0.platform room_1 = true :=
  launch0.hasRoom_least _ room_1 (by decide +kernel) (by decide +kernel) (by decide +kernel) (by decide +kernel) (by decide +kernel) (by decide +kernel)
theorem allAtoms_all (ts : List Jvm.Cond) (a : Array Jvm.Value) (st : Jvm.State) : (allAtoms ts).before a st = ts.all (fun c => c.before a st) := by
  induction ts with
  | nil => rfl
  | cons c t ih =>
    show (Jvm.Cond.and c (allAtoms t)).before a st = _
    rw [Jvm.Cond.before_and, ih, List.all_cons]
def words1 : List Jvm.Cond := Jvm.Cond.code x code maxLocals ret :: tables_1
/-- a 'code' word, met by the world's own term for the bytes: nothing is compared byte by byte -/
theorem code_word {y : MethodName} {bytes : ByteArray} {mx : Nat} {rt : Option FieldType} {a : Array Value} {s : State} {m : MethodId} {meth : Method} {c : Code} (h1 : s.methodNamed? y = some m) (h2 : s.vm.method? m = some meth) (h3 : meth.code = some c) (h4 : c.code = bytes)
    (h5 : (c.maxLocals == mx && c.exceptionTable.isEmpty && decide (c.maxStack ≤ mostOperands) && decide (meth.sig.returnType = rt) && !meth.locks && decide (parseMethodDescriptor y.desc = some meth.sig)) = true) : (Jvm.Cond.code y bytes mx rt).before a s = true := by
  simp only [Bool.and_eq_true, beq_iff_eq, Bool.not_eq_true', decide_eq_true_eq] at h5
  obtain ⟨⟨⟨⟨⟨g1, g2⟩, g3⟩, g4⟩, g5⟩, g6⟩ := h5
  simp [Cond.before, Cond.holds, Cond.value, h1, h2, h3, h4, g1, g2, g3, g4, g5, g6]
def isCode : Jvm.Cond → Bool
  | .code _ _ _ _ => true
  | _ => false
theorem all_split {L : List Jvm.Cond} {P : Jvm.Cond → Bool} (h1 : L.all (fun c => isCode c || P c) = true) (h2 : ∀ c ∈ L.filter isCode, P c = true) : L.all P = true := by
  refine List.all_eq_true.mpr fun c hc => ?_
  have h := List.all_eq_true.mp h1 c hc
  rcases Bool.eq_false_or_eq_true (isCode c) with hi | hi
  · exact h2 c (List.mem_filter.mpr ⟨hc, hi⟩)
  · simpa [hi] using h
set_option maxRecDepth 65536 in
theorem w_c0 : (Jvm.Cond.code x code maxLocals ret).before args0 about1 = true := code_word (m := ⟨1, 2⟩) (meth := k1m2) (c := k1c2) (by decide +kernel) rfl rfl rfl (by decide +kernel)
set_option maxRecDepth 65536 in
theorem w_c1 : (Jvm.Cond.code ({ cls := "com/example/prorata/prorata/request/Form", name := "<init>", desc := "()V" } : Jvm.MethodName) prog_21_method_1_code (1 : Nat) (Option.none : Option Jvm.ClassFile.FieldType)).before args0 about1 = true := code_word (m := ⟨2, 0⟩) (meth := k2m0) (c := k2c0) (by decide +kernel) rfl rfl rfl (by decide +kernel)
set_option maxRecDepth 65536 in
theorem w_c2 : (Jvm.Cond.code ({ cls := "com/example/prorata/prorata/request/Form", name := "<init>", desc := "(Lcom/example/prorata/prorata/request/Form;)V" } : Jvm.MethodName) prog_21_method_2_code (2 : Nat) (Option.none : Option Jvm.ClassFile.FieldType)).before args0 about1 = true := code_word (m := ⟨2, 1⟩) (meth := k2m1) (c := k2c1) (by decide +kernel) rfl rfl rfl (by decide +kernel)
set_option maxRecDepth 65536 in
theorem w_c3 : (Jvm.Cond.code ({ cls := "java/lang/Object", name := "<init>", desc := "()V" } : Jvm.MethodName) object_method_1_code (1 : Nat) (Option.none : Option Jvm.ClassFile.FieldType)).before args0 about1 = true := code_word (m := ⟨0, 0⟩) (meth := k0m0) (c := k0c0) (by decide +kernel) rfl rfl rfl (by decide +kernel)
set_option maxRecDepth 65536 in
theorem w_c4 : (Jvm.Cond.code ({ cls := "java/util/HashMap", name := "<init>", desc := "()V" } : Jvm.MethodName) jdk_69_method_7_code (1 : Nat) (Option.none : Option Jvm.ClassFile.FieldType)).before args0 about1 = true := code_word (m := ⟨7, 0⟩) (meth := k7m0) (c := k7c0) (by decide +kernel) rfl rfl rfl (by decide +kernel)
set_option maxRecDepth 65536 in
theorem w_c5 : (Jvm.Cond.code ({ cls := "java/util/AbstractMap", name := "<init>", desc := "()V" } : Jvm.MethodName) jdk_71_method_1_code (1 : Nat) (Option.none : Option Jvm.ClassFile.FieldType)).before args0 about1 = true := code_word (m := ⟨4, 0⟩) (meth := k4m0) (c := k4c0) (by decide +kernel) rfl rfl rfl (by decide +kernel)
set_option maxRecDepth 65536 in
theorem w_c6 : (Jvm.Cond.code ({ cls := "com/example/prorata/prorata/request/Form$Field", name := "<init>", desc := "(Lcom/example/prorata/prorata/request/Form;Ljava/lang/String;Lcom/example/prorata/prorata/request/Form;)V" } : Jvm.MethodName) prog_22_method_1_code (4 : Nat) (Option.none : Option Jvm.ClassFile.FieldType)).before args0 about1 = true := code_word (m := ⟨9, 0⟩) (meth := k9m0) (c := k9c0) (by decide +kernel) rfl rfl rfl (by decide +kernel)
set_option maxRecDepth 65536 in
theorem w_c7 : (Jvm.Cond.code ({ cls := "java/lang/Record", name := "<init>", desc := "()V" } : Jvm.MethodName) jdk_30_method_1_code (1 : Nat) (Option.none : Option Jvm.ClassFile.FieldType)).before args0 about1 = true := code_word (m := ⟨8, 0⟩) (meth := k8m0) (c := k8c0) (by decide +kernel) rfl rfl rfl (by decide +kernel)
set_option maxRecDepth 65536 in
theorem w_c8 : (Jvm.Cond.code ({ cls := "com/example/prorata/prorata/request/Form", name := "has", desc := "(Lcom/example/prorata/prorata/request/Form$Field;)Z" } : Jvm.MethodName) prog_21_method_6_code (2 : Nat) (Option.some Jvm.ClassFile.FieldType.boolean)).before args0 about1 = true := code_word (m := ⟨2, 2⟩) (meth := k2m2) (c := k2c2) (by decide +kernel) rfl rfl rfl (by decide +kernel)
set_option maxRecDepth 65536 in
theorem w_c9 : (Jvm.Cond.code ({ cls := "com/example/prorata/prorata/request/Form$Field", name := "form", desc := "()Lcom/example/prorata/prorata/request/Form;" } : Jvm.MethodName) prog_22_method_5_code (1 : Nat) (Option.some (Jvm.ClassFile.FieldType.object "com/example/prorata/prorata/request/Form"))).before args0 about1 = true := code_word (m := ⟨9, 1⟩) (meth := k9m1) (c := k9c1) (by decide +kernel) rfl rfl rfl (by decide +kernel)
set_option maxRecDepth 65536 in
theorem w_c10 : (Jvm.Cond.code ({ cls := "com/example/prorata/prorata/request/FormHasPinLaw", name := "reaches", desc := "(II)Z" } : Jvm.MethodName) method_2_code (2 : Nat) (Option.some Jvm.ClassFile.FieldType.boolean)).before args0 about1 = true := code_word (m := ⟨1, 1⟩) (meth := k1m1) (c := k1c1) (by decide +kernel) rfl rfl rfl (by decide +kernel)
def codes1 : List Jvm.Cond := [Jvm.Cond.code x code maxLocals ret, Jvm.Cond.code ({ cls := "com/example/prorata/prorata/request/Form", name := "<init>", desc := "()V" } : Jvm.MethodName) prog_21_method_1_code (1 : Nat) (Option.none : Option Jvm.ClassFile.FieldType), Jvm.Cond.code ({ cls := "com/example/prorata/prorata/request/Form", name := "<init>", desc := "(Lcom/example/prorata/prorata/request/Form;)V" } : Jvm.MethodName) prog_21_method_2_code (2 : Nat) (Option.none : Option Jvm.ClassFile.FieldType), Jvm.Cond.code ({ cls := "java/lang/Object", name := "<init>", desc := "()V" } : Jvm.MethodName) object_method_1_code (1 : Nat) (Option.none : Option Jvm.ClassFile.FieldType), Jvm.Cond.code ({ cls := "java/util/HashMap", name := "<init>", desc := "()V" } : Jvm.MethodName) jdk_69_method_7_code (1 : Nat) (Option.none : Option Jvm.ClassFile.FieldType), Jvm.Cond.code ({ cls := "java/util/AbstractMap", name := "<init>", desc := "()V" } : Jvm.MethodName) jdk_71_method_1_code (1 : Nat) (Option.none : Option Jvm.ClassFile.FieldType), Jvm.Cond.code ({ cls := "com/example/prorata/prorata/request/Form$Field", name := "<init>", desc := "(Lcom/example/prorata/prorata/request/Form;Ljava/lang/String;Lcom/example/prorata/prorata/request/Form;)V" } : Jvm.MethodName) prog_22_method_1_code (4 : Nat) (Option.none : Option Jvm.ClassFile.FieldType), Jvm.Cond.code ({ cls := "java/lang/Record", name := "<init>", desc := "()V" } : Jvm.MethodName) jdk_30_method_1_code (1 : Nat) (Option.none : Option Jvm.ClassFile.FieldType), Jvm.Cond.code ({ cls := "com/example/prorata/prorata/request/Form", name := "has", desc := "(Lcom/example/prorata/prorata/request/Form$Field;)Z" } : Jvm.MethodName) prog_21_method_6_code (2 : Nat) (Option.some Jvm.ClassFile.FieldType.boolean), Jvm.Cond.code ({ cls := "com/example/prorata/prorata/request/Form$Field", name := "form", desc := "()Lcom/example/prorata/prorata/request/Form;" } : Jvm.MethodName) prog_22_method_5_code (1 : Nat) (Option.some (Jvm.ClassFile.FieldType.object "com/example/prorata/prorata/request/Form")), Jvm.Cond.code ({ cls := "com/example/prorata/prorata/request/FormHasPinLaw", name := "reaches", desc := "(II)Z" } : Jvm.MethodName) method_2_code (2 : Nat) (Option.some Jvm.ClassFile.FieldType.boolean)]
set_option maxRecDepth 65536 in
theorem codes_eq : words1.filter isCode = codes1 := rfl
theorem w_codes : ∀ c ∈ words1.filter isCode, c.before args0 about1 = true := by
  rw [codes_eq]
  intro c hc
  simp only [codes1, List.mem_cons, List.not_mem_nil, or_false] at hc
  rcases hc with rfl | rfl | rfl | rfl | rfl | rfl | rfl | rfl | rfl | rfl | rfl
  · exact w_c0
  · exact w_c1
  · exact w_c2
  · exact w_c3
  · exact w_c4
  · exact w_c5
  · exact w_c6
  · exact w_c7
  · exact w_c8
  · exact w_c9
  · exact w_c10
set_option maxRecDepth 65536 in
theorem w_t1 : (words1.take 24).all (fun c => isCode c || c.before args0 about1) = true := by decide +kernel
set_option maxRecDepth 65536 in
theorem w_t2 : ((words1.drop 24).take 24).all (fun c => isCode c || c.before args0 about1) = true := by decide +kernel
set_option maxRecDepth 65536 in
theorem w_t3 : ((words1.drop 24).drop 24).all (fun c => isCode c || c.before args0 about1) = true := by decide +kernel
theorem w_tables : (allAtoms (Jvm.Cond.code x code maxLocals ret :: tables_1)).before args0 about1 = true := by
  rw [allAtoms_all]
  show words1.all (fun c => c.before args0 about1) = true
  refine all_split ?_ w_codes
  rw [← List.take_append_drop 24 words1, List.all_append, w_t1, ← List.take_append_drop 24 (words1.drop 24), List.all_append, w_t2, w_t3]
  rfl
set_option maxRecDepth 65536 in
theorem w_case : (Jvm.Cond.and given_1 narrow_1).before args0 about1 = true := by decide +kernel
theorem w_applies : (headSpec (Jvm.Cond.code x code maxLocals ret :: tables_1) room_1).applies x e0.platform about1 = true :=
  (Spec.applies_iff w_frames).mpr ⟨w_running, w_runnable, w_alone, w_named, w_hears, w_ripe, w_room, w_tables⟩
theorem atStart : AtStart classFile x code maxLocals ret World_1 tables_1 room_1 Calls_1 rest_1 Pre_1 launch0 p0 e0 about1 theMethod args0 below0 :=
  ⟨lists_1, trivial, launch0.admits_env _ _ _, launch0.least_env, fairChoices_fair.cas, fairChoices_fair.clock, w_frames, w_args, w_heap, w_applies, trivial, trivial, w_case⟩
end start1
theorem witness_1 : WitnessClaimed_1 := ⟨start1.p0, start1.e0, start1.about1, start1.theMethod, start1.args0, start1.below0, start1.atStart⟩
end Jvm.Pilot.@@N@@
