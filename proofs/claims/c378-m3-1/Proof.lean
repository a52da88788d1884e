import JvmDerived
import JvmDerived.Pilot.@@N@@Statement
import JvmDerived.Pilot.@@N@@Code
set_option linter.unusedVariables false
set_option linter.unusedSimpArgs false
namespace Jvm.RoadKit
open Sem ClassFile Op Lib Jvm.Stand Jvm.Free Jvm.LawKit
section OwnRuns
variable {p : Program} {l : Launch} {e : Env} {R : Room} {s : State} {m : MethodId} {args : Array Value} {below : List Frame} {meth : Method} {c : Code} {T : State} {locs : List Loc} {cells slots : Nat}
/-- from U the invocation comes to its end, and there Q holds -/
def Runs (p : Program) (e : Env) (below : List Frame) (Q : Outcome → State → Prop) (U : State) : Prop :=
  ∃ s₂ o, Steps p.tables e below U s₂ ∧ s₂.status = .running ∧ Ended s₂ below o ∧ Q o s₂
def QE (s : State) (Q : Option Value → Heap → List Loc → Prop) (C S : Nat) : Outcome → State → Prop :=
  fun o U' => ∃ v L, o = .returned v ∧ Q v U'.heap L ∧ FrameEnd s o U' L C S
theorem Runs.by {Q : Outcome → State → Prop} {U U' : State} (h : ∀ t, Steps p.tables e below U' t → Steps p.tables e below U t) (k : Runs p e below Q U') : Runs p e below Q U := by
  obtain ⟨s2, o, h1, h2⟩ := k
  exact ⟨s2, o, h _ h1, h2⟩
theorem Runs.ret {Q : Option Value → Heap → List Loc → Prop} {C S : Nat} {t : FieldType} {w : Value} {i : Instr} {pc : Nat} {Ls : Array Slot} {rest : List Value}
    (X : Stand p l e R s m args below meth c T locs cells slots) (hx : p.tables.exec = Jvm.exec) (hret : meth.sig.returnType = some t) (hlk : meth.locks = false)
    (hi : (i = .ireturn ∧ (t = .int ∨ t = .boolean ∨ t = .byte ∨ t = .char ∨ t = .short) ∧ ∃ z, w = .int z) ∨ (i = .lreturn ∧ t = .long ∧ ∃ z, w = .long z) ∨ (i = .dreturn ∧ t = .double ∧ ∃ z, w = .double z) ∨ (i = .freturn ∧ t = .float ∧ ∃ z, w = .float z) ∨ (i = .areturn ∧ t.isReference = true ∧ w.isRef = true))
    (hn : narrow t w = w) (hd : decode c.code pc = .ok (i, 1)) (hC : cells ≤ C) (hS : slots ≤ S) (hQ : Q (some w) T.heap locs) : Runs p e below (QE s Q C S) (T.setTop (mkF m pc Ls (w :: rest))) := by
  obtain ⟨fs, hr, hrun, hended, hW, hsame⟩ := X.leave (v := some w) (fun h => by rw [hret] at h; cases h) hlk
  exact ⟨_, _, retOut X hx hret hn hi hd hr, hrun, hended, _, _, rfl, hQ, ⟨_, rfl⟩, hW, hsame.mono hC hS⟩
theorem Runs.retV {Q : Option Value → Heap → List Loc → Prop} {C S : Nat} {pc : Nat} {Ls : Array Slot}
    (X : Stand p l e R s m args below meth c T locs cells slots) (hx : p.tables.exec = Jvm.exec) (hret : meth.sig.returnType = none) (hlk : meth.locks = false)
    (hd : decode c.code pc = .ok (.return_, 1)) (hC : cells ≤ C) (hS : slots ≤ S) (hQ : Q none T.heap locs) : Runs p e below (QE s Q C S) (T.setTop (mkF m pc Ls [])) := by
  obtain ⟨fs, hr, hrun, hended, hW, hsame⟩ := X.leave (v := none) (fun _ => rfl) hlk
  exact ⟨_, _, X.returnOut hx hret hd hr, hrun, hended, _, _, rfl, hQ, ⟨_, rfl⟩, hW, hsame.mono hC hS⟩
theorem own_narrow_b (x : Int32) (h : x = 0 ∨ x = 1) : narrow .boolean (.int x) = .int x := by rcases h with rfl | rfl <;> rfl
end OwnRuns
end Jvm.RoadKit
namespace Jvm.Pilot.@@N@@
open Jvm Jvm.ClassFile Sem Op Lib Jvm.Free Jvm.Stand Jvm.LawKit Jvm.RoadKit Bundle Jvm.Pilot.@@N@@.Jvm.D
def own_ind (c : Int32) : Int32 := if c < 32 then 0 else if 126 < c then 0 else 1
def own_code (c : Int32) : Int32 := if ¬ (32 < c) then 0 else if 126 < c then 0 else 1
theorem own_ind_c (c : Int32) : (own_ind c = 1 ∧ 32 ≤ c.toInt ∧ c.toInt ≤ 126) ∨ (own_ind c = 0 ∧ (c.toInt < 32 ∨ 126 < c.toInt)) := by
  have e1 : (32 : Int32).toInt = 32 := by decide
  have e2 : (126 : Int32).toInt = 126 := by decide
  by_cases h1 : c < 32
  · right; refine ⟨by simp [own_ind, h1], ?_⟩; rw [Int32.lt_iff_toInt_lt] at h1; omega
  · by_cases h2 : 126 < c
    · right; refine ⟨by simp [own_ind, h1, h2], ?_⟩; rw [Int32.lt_iff_toInt_lt] at h2; omega
    · left; refine ⟨by simp [own_ind, h1, h2], ?_⟩; rw [Int32.lt_iff_toInt_lt] at h1 h2; omega
theorem own_code_c (c : Int32) : (own_code c = 1 ∧ 32 < c.toInt ∧ c.toInt ≤ 126) ∨ (own_code c = 0 ∧ (c.toInt ≤ 32 ∨ 126 < c.toInt)) := by
  have e1 : (32 : Int32).toInt = 32 := by decide
  have e2 : (126 : Int32).toInt = 126 := by decide
  by_cases h1 : 32 < c
  · by_cases h2 : 126 < c
    · right; refine ⟨by simp [own_code, h1, h2], ?_⟩; rw [Int32.lt_iff_toInt_lt] at h2; omega
    · left; refine ⟨by simp [own_code, h1, h2], ?_⟩; rw [Int32.lt_iff_toInt_lt] at h1 h2; omega
  · right; refine ⟨by simp [own_code, h1], ?_⟩; rw [Int32.lt_iff_toInt_lt] at h1; omega
theorem d1_0 : decode prog_42_method_3_code 0 = .ok (.iload_n 0, 1) := by decide +kernel
theorem d1_1 : decode prog_42_method_3_code 1 = .ok (.bipush 32, 2) := by decide +kernel
theorem d1_3 : decode prog_42_method_3_code 3 = .ok (.if_icmp .lt 13, 3) := by decide +kernel
theorem d1_6 : decode prog_42_method_3_code 6 = .ok (.iload_n 0, 1) := by decide +kernel
theorem d1_7 : decode prog_42_method_3_code 7 = .ok (.bipush 126, 2) := by decide +kernel
theorem d1_9 : decode prog_42_method_3_code 9 = .ok (.if_icmp .gt 7, 3) := by decide +kernel
theorem d1_12 : decode prog_42_method_3_code 12 = .ok (.iconst 1, 1) := by decide +kernel
theorem d1_13 : decode prog_42_method_3_code 13 = .ok (.goto 4, 3) := by decide +kernel
theorem d1_16 : decode prog_42_method_3_code 16 = .ok (.iconst 0, 1) := by decide +kernel
theorem d1_17 : decode prog_42_method_3_code 17 = .ok (.ireturn, 1) := by decide +kernel
theorem ef_1_0 (m : MethodId) (p0 : Int32) : entryFrame m #[(.int p0)] 1 = mkF m 0 #[.val (.int p0)] [] := by first | (simp [entryFrame, mkF, argsToLocals, Value.category]; done) | rfl
theorem pn_com_example_vedette_vedette_record_DataZone : plainName "com/example/vedette/vedette/record/DataZone" = true := by first | (simp [plainName, overriddenIn]; done) | decide +kernel
def Q_rm1 (Z : State) (p0 : Int32)  (h0 : Heap) (n0 : Nat) (v : Option Value) (h : Heap) (L : List Loc) : Prop := v = some (.int (own_ind p0)) ∧ Fr n0 L ∧ h = h0
set_option maxRecDepth 65536 in
set_option maxHeartbeats 40000000 in
theorem rm1 (l : Launch) (Z : State) (a0 : Array Value) (hw : ∀ d ∈ tables_1, d.before a0 Z = true) (ws : List Jvm.Cond) (p0 : Int32)  (h0 : Heap) (n0 : Nat) (Z0 : n0 ≤ h0.size) :
    MetFree l (⟨"com/example/vedette/vedette/record/DataZone", "isIndicator", "(C)Z"⟩ : MethodName) (head1 (Jvm.Cond.code (⟨"com/example/vedette/vedette/record/DataZone", "isIndicator", "(C)Z"⟩ : MethodName) prog_42_method_3_code 1 (some .boolean) :: ws) ({ frames := 0, cells := 0, slots := 0, locals := 0 } : Room)) (fun a U => a = #[(.int p0)] ∧ Z.Warmed39 U.vm ∧ U.heap = h0) (fun _ _ _ _ _ => True) (fun _ U o U' => ∃ v L, o = .returned v ∧ Q_rm1 Z p0 h0 n0 v U'.heap L ∧ FrameEnd U o U' L ({ frames := 0, cells := 0, slots := 0, locals := 0 } : Room).cells ({ frames := 0, cells := 0, slots := 0, locals := 0 } : Room).slots) := by
  refine MetFree.of_bodySF (plainFor_of_name pn_com_example_vedette_vedette_record_DataZone) hisR ?_
  intro p e s m args below meth c s₁ Bd hml0 hP hK
  obtain ⟨rfl, hZ, hh⟩ := hP
  have hx := Bd.exec
  have hby := Bd.bytes
  have hlk := BodyLoose.notSynchronized Bd
  have hrt := Bd.returns
  have hml : c.maxLocals = 1 := hml0
  have hown : s.vm.findClass "com/example/vedette/vedette/record/DataZone" = some m.cls := findClass_of_methodNamed Bd.named
  have hnm := (name_of_methodNamed Bd.named Bd.method).1
  have X0 : Stand p l e ({ frames := 0, cells := 0, slots := 0, locals := 0 } : Room) s m #[(.int p0)] below meth c s₁ [] 0 0 := Stand.of_body Bd
  have e0 : s₁.heap = h0 := by rw [← hh, Bd.state]; rfl
  have N0 := Fr.nil n0
  have K0 : Keep h0 h0 [] := Keep.refl h0 _
  show Runs p e below (QE s (Q_rm1 Z p0 h0 n0) ({ frames := 0, cells := 0, slots := 0, locals := 0 } : Room).cells ({ frames := 0, cells := 0, slots := 0, locals := 0 } : Room).slots) (s₁.setTop (entryFrame m #[(.int p0)] 1))
  rw [ef_1_0 m p0]
  show Runs p e below _ (s₁.setTop (mkF m 0 #[.val (.int p0)] []))
  refine Runs.by (fun _ hr => XS.iloadN X0.here hx rfl (hb hby d1_0) rfl  hr) ?_
  show Runs p e below _ (s₁.setTop (mkF m 1 #[.val (.int p0)] [(.int p0)]))
  refine Runs.by (fun _ hr => XS.bipush X0.here hx rfl (hb hby d1_1) hr) ?_
  show Runs p e below _ (s₁.setTop (mkF m 3 #[.val (.int p0)] [(.int (32 : Int32)), (.int p0)]))
  by_cases hc3 : p0 < (32 : Int32)
  · -- pc 3: p0 < (32 : Int32)
    refine Runs.by (fun _ hr => XS.icmpYes X0.here hx rfl (pc0 := 3) (pc' := 16) rfl (hb hby d1_3) rfl (tlt hc3).1 (by decide) (by decide) hr) ?_
    show Runs p e below _ (s₁.setTop (mkF m 16 #[.val (.int p0)] []))
    refine Runs.by (fun _ hr => XS.iconst X0.here hx rfl (hb hby d1_16) hr) ?_
    show Runs p e below _ (s₁.setTop (mkF m 17 #[.val (.int p0)] [(.int (0 : Int32))]))
    refine Runs.ret X0 hx hrt hlk (Or.inl ⟨rfl, by simp, _, rfl⟩) (by rfl) (hb hby d1_17) (by decide) (by decide) ?_
    rw [e0]
    exact ⟨by simp [own_ind, *], N0, rfl⟩
  · -- pc 3: not p0 < (32 : Int32)
    refine Runs.by (fun _ hr => XS.icmpNo X0.here hx rfl (hb hby d1_3) rfl (flt hc3).1 hr) ?_
    show Runs p e below _ (s₁.setTop (mkF m 6 #[.val (.int p0)] []))
    refine Runs.by (fun _ hr => XS.iloadN X0.here hx rfl (hb hby d1_6) rfl  hr) ?_
    show Runs p e below _ (s₁.setTop (mkF m 7 #[.val (.int p0)] [(.int p0)]))
    refine Runs.by (fun _ hr => XS.bipush X0.here hx rfl (hb hby d1_7) hr) ?_
    show Runs p e below _ (s₁.setTop (mkF m 9 #[.val (.int p0)] [(.int (126 : Int32)), (.int p0)]))
    by_cases hc9 : (126 : Int32) < p0
    · -- pc 9: (126 : Int32) < p0
      refine Runs.by (fun _ hr => XS.icmpYes X0.here hx rfl (pc0 := 9) (pc' := 16) rfl (hb hby d1_9) rfl (tlt hc9).2.2.1 (by decide) (by decide) hr) ?_
      show Runs p e below _ (s₁.setTop (mkF m 16 #[.val (.int p0)] []))
      refine Runs.by (fun _ hr => XS.iconst X0.here hx rfl (hb hby d1_16) hr) ?_
      show Runs p e below _ (s₁.setTop (mkF m 17 #[.val (.int p0)] [(.int (0 : Int32))]))
      refine Runs.ret X0 hx hrt hlk (Or.inl ⟨rfl, by simp, _, rfl⟩) (by rfl) (hb hby d1_17) (by decide) (by decide) ?_
      rw [e0]
      exact ⟨by simp [own_ind, *], N0, rfl⟩
    · -- pc 9: not (126 : Int32) < p0
      refine Runs.by (fun _ hr => XS.icmpNo X0.here hx rfl (hb hby d1_9) rfl (flt hc9).2.2.1 hr) ?_
      show Runs p e below _ (s₁.setTop (mkF m 12 #[.val (.int p0)] []))
      refine Runs.by (fun _ hr => XS.iconst X0.here hx rfl (hb hby d1_12) hr) ?_
      show Runs p e below _ (s₁.setTop (mkF m 13 #[.val (.int p0)] [(.int (1 : Int32))]))
      refine Runs.by (fun _ hr => XS.goto X0.here hx rfl (pc0 := 13) (pc' := 17) rfl (hb hby d1_13) (by decide) (by decide) hr) ?_
      show Runs p e below _ (s₁.setTop (mkF m 17 #[.val (.int p0)] [(.int (1 : Int32))]))
      refine Runs.ret X0 hx hrt hlk (Or.inl ⟨rfl, by simp, _, rfl⟩) (by rfl) (hb hby d1_17) (by decide) (by decide) ?_
      rw [e0]
      exact ⟨by simp [own_ind, *], N0, rfl⟩
theorem d2_0 : decode prog_47_method_12_code 0 = .ok (.iload_n 0, 1) := by decide +kernel
theorem d2_1 : decode prog_47_method_12_code 1 = .ok (.bipush 32, 2) := by decide +kernel
theorem d2_3 : decode prog_47_method_12_code 3 = .ok (.if_icmp .le 13, 3) := by decide +kernel
theorem d2_6 : decode prog_47_method_12_code 6 = .ok (.iload_n 0, 1) := by decide +kernel
theorem d2_7 : decode prog_47_method_12_code 7 = .ok (.bipush 126, 2) := by decide +kernel
theorem d2_9 : decode prog_47_method_12_code 9 = .ok (.if_icmp .gt 7, 3) := by decide +kernel
theorem d2_12 : decode prog_47_method_12_code 12 = .ok (.iconst 1, 1) := by decide +kernel
theorem d2_13 : decode prog_47_method_12_code 13 = .ok (.goto 4, 3) := by decide +kernel
theorem d2_16 : decode prog_47_method_12_code 16 = .ok (.iconst 0, 1) := by decide +kernel
theorem d2_17 : decode prog_47_method_12_code 17 = .ok (.ireturn, 1) := by decide +kernel
theorem ef_2_1 (m : MethodId) (p0 : Int32) : entryFrame m #[(.int p0)] 1 = mkF m 0 #[.val (.int p0)] [] := by first | (simp [entryFrame, mkF, argsToLocals, Value.category]; done) | rfl
theorem pn_com_example_vedette_vedette_record_Subfield : plainName "com/example/vedette/vedette/record/Subfield" = true := by first | (simp [plainName, overriddenIn]; done) | decide +kernel
def Q_rm2 (Z : State) (p0 : Int32)  (h0 : Heap) (n0 : Nat) (v : Option Value) (h : Heap) (L : List Loc) : Prop := v = some (.int (own_code p0)) ∧ Fr n0 L ∧ h = h0
set_option maxRecDepth 65536 in
set_option maxHeartbeats 40000000 in
theorem rm2 (l : Launch) (Z : State) (a0 : Array Value) (hw : ∀ d ∈ tables_1, d.before a0 Z = true) (ws : List Jvm.Cond) (p0 : Int32)  (h0 : Heap) (n0 : Nat) (Z0 : n0 ≤ h0.size) :
    MetFree l (⟨"com/example/vedette/vedette/record/Subfield", "isCode", "(C)Z"⟩ : MethodName) (head1 (Jvm.Cond.code (⟨"com/example/vedette/vedette/record/Subfield", "isCode", "(C)Z"⟩ : MethodName) prog_47_method_12_code 1 (some .boolean) :: ws) ({ frames := 0, cells := 0, slots := 0, locals := 0 } : Room)) (fun a U => a = #[(.int p0)] ∧ Z.Warmed39 U.vm ∧ U.heap = h0) (fun _ _ _ _ _ => True) (fun _ U o U' => ∃ v L, o = .returned v ∧ Q_rm2 Z p0 h0 n0 v U'.heap L ∧ FrameEnd U o U' L ({ frames := 0, cells := 0, slots := 0, locals := 0 } : Room).cells ({ frames := 0, cells := 0, slots := 0, locals := 0 } : Room).slots) := by
  refine MetFree.of_bodySF (plainFor_of_name pn_com_example_vedette_vedette_record_Subfield) hisR ?_
  intro p e s m args below meth c s₁ Bd hml0 hP hK
  obtain ⟨rfl, hZ, hh⟩ := hP
  have hx := Bd.exec
  have hby := Bd.bytes
  have hlk := BodyLoose.notSynchronized Bd
  have hrt := Bd.returns
  have hml : c.maxLocals = 1 := hml0
  have hown : s.vm.findClass "com/example/vedette/vedette/record/Subfield" = some m.cls := findClass_of_methodNamed Bd.named
  have hnm := (name_of_methodNamed Bd.named Bd.method).1
  have X0 : Stand p l e ({ frames := 0, cells := 0, slots := 0, locals := 0 } : Room) s m #[(.int p0)] below meth c s₁ [] 0 0 := Stand.of_body Bd
  have e0 : s₁.heap = h0 := by rw [← hh, Bd.state]; rfl
  have N0 := Fr.nil n0
  have K0 : Keep h0 h0 [] := Keep.refl h0 _
  show Runs p e below (QE s (Q_rm2 Z p0 h0 n0) ({ frames := 0, cells := 0, slots := 0, locals := 0 } : Room).cells ({ frames := 0, cells := 0, slots := 0, locals := 0 } : Room).slots) (s₁.setTop (entryFrame m #[(.int p0)] 1))
  rw [ef_2_1 m p0]
  show Runs p e below _ (s₁.setTop (mkF m 0 #[.val (.int p0)] []))
  refine Runs.by (fun _ hr => XS.iloadN X0.here hx rfl (hb hby d2_0) rfl  hr) ?_
  show Runs p e below _ (s₁.setTop (mkF m 1 #[.val (.int p0)] [(.int p0)]))
  refine Runs.by (fun _ hr => XS.bipush X0.here hx rfl (hb hby d2_1) hr) ?_
  show Runs p e below _ (s₁.setTop (mkF m 3 #[.val (.int p0)] [(.int (32 : Int32)), (.int p0)]))
  by_cases hc3 : (32 : Int32) < p0
  · -- pc 3: (32 : Int32) < p0
    refine Runs.by (fun _ hr => XS.icmpNo X0.here hx rfl (hb hby d2_3) rfl (tlt hc3).2.2.2 hr) ?_
    show Runs p e below _ (s₁.setTop (mkF m 6 #[.val (.int p0)] []))
    refine Runs.by (fun _ hr => XS.iloadN X0.here hx rfl (hb hby d2_6) rfl  hr) ?_
    show Runs p e below _ (s₁.setTop (mkF m 7 #[.val (.int p0)] [(.int p0)]))
    refine Runs.by (fun _ hr => XS.bipush X0.here hx rfl (hb hby d2_7) hr) ?_
    show Runs p e below _ (s₁.setTop (mkF m 9 #[.val (.int p0)] [(.int (126 : Int32)), (.int p0)]))
    by_cases hc9 : (126 : Int32) < p0
    · -- pc 9: (126 : Int32) < p0
      refine Runs.by (fun _ hr => XS.icmpYes X0.here hx rfl (pc0 := 9) (pc' := 16) rfl (hb hby d2_9) rfl (tlt hc9).2.2.1 (by decide) (by decide) hr) ?_
      show Runs p e below _ (s₁.setTop (mkF m 16 #[.val (.int p0)] []))
      refine Runs.by (fun _ hr => XS.iconst X0.here hx rfl (hb hby d2_16) hr) ?_
      show Runs p e below _ (s₁.setTop (mkF m 17 #[.val (.int p0)] [(.int (0 : Int32))]))
      refine Runs.ret X0 hx hrt hlk (Or.inl ⟨rfl, by simp, _, rfl⟩) (by rfl) (hb hby d2_17) (by decide) (by decide) ?_
      rw [e0]
      exact ⟨by simp [own_code, *], N0, rfl⟩
    · -- pc 9: not (126 : Int32) < p0
      refine Runs.by (fun _ hr => XS.icmpNo X0.here hx rfl (hb hby d2_9) rfl (flt hc9).2.2.1 hr) ?_
      show Runs p e below _ (s₁.setTop (mkF m 12 #[.val (.int p0)] []))
      refine Runs.by (fun _ hr => XS.iconst X0.here hx rfl (hb hby d2_12) hr) ?_
      show Runs p e below _ (s₁.setTop (mkF m 13 #[.val (.int p0)] [(.int (1 : Int32))]))
      refine Runs.by (fun _ hr => XS.goto X0.here hx rfl (pc0 := 13) (pc' := 17) rfl (hb hby d2_13) (by decide) (by decide) hr) ?_
      show Runs p e below _ (s₁.setTop (mkF m 17 #[.val (.int p0)] [(.int (1 : Int32))]))
      refine Runs.ret X0 hx hrt hlk (Or.inl ⟨rfl, by simp, _, rfl⟩) (by rfl) (hb hby d2_17) (by decide) (by decide) ?_
      rw [e0]
      exact ⟨by simp [own_code, *], N0, rfl⟩
  · -- pc 3: not (32 : Int32) < p0
    refine Runs.by (fun _ hr => XS.icmpYes X0.here hx rfl (pc0 := 3) (pc' := 16) rfl (hb hby d2_3) rfl (flt hc3).2.2.2 (by decide) (by decide) hr) ?_
    show Runs p e below _ (s₁.setTop (mkF m 16 #[.val (.int p0)] []))
    refine Runs.by (fun _ hr => XS.iconst X0.here hx rfl (hb hby d2_16) hr) ?_
    show Runs p e below _ (s₁.setTop (mkF m 17 #[.val (.int p0)] [(.int (0 : Int32))]))
    refine Runs.ret X0 hx hrt hlk (Or.inl ⟨rfl, by simp, _, rfl⟩) (by rfl) (hb hby d2_17) (by decide) (by decide) ?_
    rw [e0]
    exact ⟨by simp [own_code, *], N0, rfl⟩
theorem ef_0_2 (m : MethodId) (p0 : Int32) : entryFrame m #[(.int p0)] maxLocals = mkF m 0 #[.val (.int p0), .unset, .unset, .unset] [] := by first | (simp [entryFrame, mkF, argsToLocals, Value.category, maxLocals]; done) | rfl
theorem pn_com_example_vedette_vedette_record_DataZoneIsIndicatorPinLaw : plainName "com/example/vedette/vedette/record/DataZoneIsIndicatorPinLaw" = true := by first | (simp [plainName, overriddenIn]; done) | decide +kernel
def Q_rm0 (Z : State) (p0 : Int32)  (h0 : Heap) (n0 : Nat) (v : Option Value) (h : Heap) (L : List Loc) : Prop := v = some (.int 1) ∧ Fr n0 L
theorem pd_0 : parseMethodDescriptor "(C)Z" = some ⟨[.char], some .boolean⟩ := by decide +kernel
set_option maxRecDepth 65536 in
set_option maxHeartbeats 40000000 in
theorem rm0 (l : Launch) (Z : State) (a0 : Array Value) (hw : ∀ d ∈ tables_1, d.before a0 Z = true) (ws : List Jvm.Cond) (p0 : Int32)  (h0 : Heap) (n0 : Nat) (Z0 : n0 ≤ h0.size) :
    MetFree l x (head1 (Jvm.Cond.code x code maxLocals ret :: ws) room_1) (fun a U => a = #[(.int p0)] ∧ Z.Warmed39 U.vm ∧ U.heap = h0) (fun _ _ _ _ _ => True) (fun _ U o U' => ∃ v L, o = .returned v ∧ Q_rm0 Z p0 h0 n0 v U'.heap L ∧ FrameEnd U o U' L room_1.cells room_1.slots) := by
  refine MetFree.of_bodySF (plainFor_of_name pn_com_example_vedette_vedette_record_DataZoneIsIndicatorPinLaw) hisR ?_
  intro p e s m args below meth c s₁ Bd hml0 hP hK
  obtain ⟨rfl, hZ, hh⟩ := hP
  have hx := Bd.exec
  have hby := Bd.bytes
  have hlk := BodyLoose.notSynchronized Bd
  have hrt := Bd.returns
  have hml : c.maxLocals = 4 := hml0
  have hown : s.vm.findClass "com/example/vedette/vedette/record/DataZoneIsIndicatorPinLaw" = some m.cls := findClass_of_methodNamed Bd.named
  have hnm := (name_of_methodNamed Bd.named Bd.method).1
  have X0 : Stand p l e room_1 s m #[(.int p0)] below meth c s₁ [] 0 0 := Stand.of_body Bd
  have e0 : s₁.heap = h0 := by rw [← hh, Bd.state]; rfl
  have N0 := Fr.nil n0
  have K0 : Keep h0 h0 [] := Keep.refl h0 _
  show Runs p e below (QE s (Q_rm0 Z p0 h0 n0) room_1.cells room_1.slots) (s₁.setTop (entryFrame m #[(.int p0)] maxLocals))
  rw [ef_0_2 m p0]
  show Runs p e below _ (s₁.setTop (mkF m 0 #[.val (.int p0), .unset, .unset, .unset] []))
  refine Runs.by (fun _ hr => XS.iloadN X0.here hx rfl (hb hby at_0) rfl  hr) ?_
  show Runs p e below _ (s₁.setTop (mkF m 1 #[.val (.int p0), .unset, .unset, .unset] [(.int p0)]))
  refine Runs.by (fun _ hr => X0.ldcI hx hown (mvT hZ (hw _ (List.mem_of_getElem? (i := 0) rfl))) (g := (mkF m 1 #[.val (.int p0), .unset, .unset, .unset] [(.int p0)])) rfl (hb hby at_1) hr) ?_
  show Runs p e below _ (s₁.setTop (mkF m 3 #[.val (.int p0), .unset, .unset, .unset] [(.int (65535 : Int32)), (.int p0)]))
  refine Runs.by (fun _ hr => XS.iand X0.here hx rfl (hb hby at_3) rfl hr) ?_
  show Runs p e below _ (s₁.setTop (mkF m 4 #[.val (.int p0), .unset, .unset, .unset] [(.int (p0 &&& (65535 : Int32)))]))
  refine Runs.by (fun _ hr => XS.i2c X0.here hx rfl (hb hby at_4) rfl hr) ?_
  show Runs p e below _ (s₁.setTop (mkF m 5 #[.val (.int p0), .unset, .unset, .unset] [(.int ((p0 &&& (65535 : Int32)).toUInt32.toUInt16.toUInt32.toInt32))]))
  refine Runs.by (fun _ hr => XS.istoreN X0.here hx rfl (hb hby at_5) rfl (l' := #[.val (.int p0), .val (.int ((p0 &&& (65535 : Int32)).toUInt32.toUInt16.toUInt32.toInt32)), .unset, .unset]) rfl hr) ?_
  generalize hcc : ((p0 &&& (65535 : Int32)).toUInt32.toUInt16.toUInt32.toInt32) = cc
  show Runs p e below _ (s₁.setTop (mkF m 6 #[.val (.int p0), .val (.int cc), .unset, .unset] []))
  refine Runs.by (fun _ hr => XS.iloadN X0.here hx rfl (hb hby at_6) rfl  hr) ?_
  show Runs p e below _ (s₁.setTop (mkF m 7 #[.val (.int p0), .val (.int cc), .unset, .unset] [(.int cc)]))
  obtain ⟨_, _, ⟨T1, L1, k1, n1⟩, -, X1, ⟨Lc1, hQ1, l1, y1, z1⟩, st1⟩ := Jvm.LawKit.callS X0 hx (y := (⟨"com/example/vedette/vedette/record/DataZone", "isIndicator", "(C)Z"⟩ : MethodName)) hown (mvT hZ (hw _ (List.mem_of_getElem? (i := 1) rfl))) (mvT hZ (hw _ (List.mem_of_getElem? (i := 2) rfl))) (mvT hZ (hw _ (List.mem_of_getElem? (i := 3) rfl))) (mvT hZ (hw _ (List.mem_of_getElem? (i := 4) rfl))) (by decide) (backOf (W := 0) (rm1 l Z a0 hw [] cc  h0 n0 (Nat.le_trans Z0 K0.1) ) hZ (hw _ (List.mem_of_getElem? (i := 4) rfl)) (hw _ (List.mem_of_getElem? (i := 3) rfl)) (by decide) (by decide)) (g := (mkF m 7 #[.val (.int p0), .val (.int cc), .unset, .unset] [(.int cc)])) rfl (by rw [hml]; rfl) (argsL := [(.int cc)]) (rest := []) (lenOf pd_0 rfl) rfl (by show 2 * 0 + _ ≤ _; exact Nat.le_of_eq rfl) (hb hby at_7) (fun _ _ => ⟨rfl, e0, (by decide : 0 + 0 ≤ _), (by decide : 0 + 0 ≤ _)⟩)
  dsimp only [Pt.U, Pt.locs, Pt.cells, Pt.slots] at X1 l1 y1 z1 st1 hQ1
  subst l1 y1 z1
  obtain ⟨rfl, Nq1, eq1⟩ := hQ1
  have N1 := Fr.app N0 Nq1
  refine Runs.by (fun t hr => st1 t hr) ?_
  rcases own_ind_c cc with ⟨hv, hl⟩ | ⟨hv, hl⟩ <;> rw [hv]
  · skip
    show Runs p e below _ (T1.setTop (mkF m 10 #[.val (.int p0), .val (.int cc), .unset, .unset] [(.int (1 : Int32))]))
    refine Runs.by (fun _ hr => XS.iloadN X1.here hx rfl (hb hby at_10) rfl  hr) ?_
    show Runs p e below _ (T1.setTop (mkF m 11 #[.val (.int p0), .val (.int cc), .unset, .unset] [(.int cc), (.int (1 : Int32))]))
    refine Runs.by (fun _ hr => XS.bipush X1.here hx rfl (hb hby at_11) hr) ?_
    show Runs p e below _ (T1.setTop (mkF m 13 #[.val (.int p0), .val (.int cc), .unset, .unset] [(.int (32 : Int32)), (.int cc), (.int (1 : Int32))]))
    by_cases hc13 : cc = (32 : Int32)
    · -- pc 13: cc = (32 : Int32)
      refine Runs.by (fun _ hr => XS.icmpYes X1.here hx rfl (pc0 := 13) (pc' := 23) rfl (hb hby at_13) rfl (teq hc13).1 (by decide) (by decide) hr) ?_
      show Runs p e below _ (T1.setTop (mkF m 23 #[.val (.int p0), .val (.int cc), .unset, .unset] [(.int (1 : Int32))]))
      refine Runs.by (fun _ hr => XS.iconst X1.here hx rfl (hb hby at_23) hr) ?_
      show Runs p e below _ (T1.setTop (mkF m 24 #[.val (.int p0), .val (.int cc), .unset, .unset] [(.int (1 : Int32)), (.int (1 : Int32))]))
      refine Runs.by (fun _ hr => XS.goto X1.here hx rfl (pc0 := 24) (pc' := 28) rfl (hb hby at_24) (by decide) (by decide) hr) ?_
      show Runs p e below _ (T1.setTop (mkF m 28 #[.val (.int p0), .val (.int cc), .unset, .unset] [(.int (1 : Int32)), (.int (1 : Int32))]))
      have hc28 : (1 : Int32) = (1 : Int32) := (by decide)
      refine Runs.by (fun _ hr => XS.icmpNo X1.here hx rfl (hb hby at_28) rfl (teq hc28).2 hr) ?_
      show Runs p e below _ (T1.setTop (mkF m 31 #[.val (.int p0), .val (.int cc), .unset, .unset] []))
      refine Runs.by (fun _ hr => XS.iconst X1.here hx rfl (hb hby at_31) hr) ?_
      show Runs p e below _ (T1.setTop (mkF m 32 #[.val (.int p0), .val (.int cc), .unset, .unset] [(.int (1 : Int32))]))
      refine Runs.by (fun _ hr => XS.goto X1.here hx rfl (pc0 := 32) (pc' := 36) rfl (hb hby at_32) (by decide) (by decide) hr) ?_
      show Runs p e below _ (T1.setTop (mkF m 36 #[.val (.int p0), .val (.int cc), .unset, .unset] [(.int (1 : Int32))]))
      refine Runs.by (fun _ hr => XS.istoreN X1.here hx rfl (hb hby at_36) rfl (l' := #[.val (.int p0), .val (.int cc), .val (.int (1 : Int32)), .unset]) rfl hr) ?_
      show Runs p e below _ (T1.setTop (mkF m 37 #[.val (.int p0), .val (.int cc), .val (.int (1 : Int32)), .unset] []))
      refine Runs.by (fun _ hr => XS.bipush X1.here hx rfl (hb hby at_37) hr) ?_
      show Runs p e below _ (T1.setTop (mkF m 39 #[.val (.int p0), .val (.int cc), .val (.int (1 : Int32)), .unset] [(.int (32 : Int32))]))
      obtain ⟨_, _, ⟨T2, L2, k2, n2⟩, -, X2, ⟨Lc2, hQ2, l2, y2, z2⟩, st2⟩ := Jvm.LawKit.callS X1 hx (y := (⟨"com/example/vedette/vedette/record/DataZone", "isIndicator", "(C)Z"⟩ : MethodName)) hown (mvT hZ (hw _ (List.mem_of_getElem? (i := 1) rfl))) (mvT hZ (hw _ (List.mem_of_getElem? (i := 2) rfl))) (mvT hZ (hw _ (List.mem_of_getElem? (i := 3) rfl))) (mvT hZ (hw _ (List.mem_of_getElem? (i := 4) rfl))) (by decide) (backOf (W := 0) (rm1 l Z a0 hw [] (32 : Int32)  h0 n0 (Nat.le_trans Z0 K0.1) ) hZ (hw _ (List.mem_of_getElem? (i := 4) rfl)) (hw _ (List.mem_of_getElem? (i := 3) rfl)) (by decide) (by decide)) (g := (mkF m 39 #[.val (.int p0), .val (.int cc), .val (.int (1 : Int32)), .unset] [(.int (32 : Int32))])) rfl (by rw [hml]; rfl) (argsL := [(.int (32 : Int32))]) (rest := []) (lenOf pd_0 rfl) rfl (by show 2 * 0 + _ ≤ _; exact Nat.le_of_eq rfl) (hb hby at_39) (fun _ _ => ⟨rfl, eq1, (by decide : 0 + 0 ≤ _), (by decide : 0 + 0 ≤ _)⟩)
      dsimp only [Pt.U, Pt.locs, Pt.cells, Pt.slots] at X2 l2 y2 z2 st2 hQ2
      subst l2 y2 z2
      obtain ⟨rfl, Nq2, eq2⟩ := hQ2
      have N2 := Fr.app N1 Nq2
      refine Runs.by (fun t hr => st2 t hr) ?_
      rw [show own_ind (32 : Int32) = (1 : Int32) from by decide]
      show Runs p e below _ (T2.setTop (mkF m 42 #[.val (.int p0), .val (.int cc), .val (.int (1 : Int32)), .unset] [(.int (1 : Int32))]))
      have hc42 : ¬ ((1 : Int32) = (0 : Int32)) := (by decide)
      refine Runs.by (fun _ hr => XS.ifNo X2.here hx rfl (hb hby at_42) rfl ((if0 _ _).trans (feq hc42).1) hr) ?_
      show Runs p e below _ (T2.setTop (mkF m 45 #[.val (.int p0), .val (.int cc), .val (.int (1 : Int32)), .unset] []))
      refine Runs.by (fun _ hr => XS.bipush X2.here hx rfl (hb hby at_45) hr) ?_
      show Runs p e below _ (T2.setTop (mkF m 47 #[.val (.int p0), .val (.int cc), .val (.int (1 : Int32)), .unset] [(.int (126 : Int32))]))
      obtain ⟨_, _, ⟨T3, L3, k3, n3⟩, -, X3, ⟨Lc3, hQ3, l3, y3, z3⟩, st3⟩ := Jvm.LawKit.callS X2 hx (y := (⟨"com/example/vedette/vedette/record/DataZone", "isIndicator", "(C)Z"⟩ : MethodName)) hown (mvT hZ (hw _ (List.mem_of_getElem? (i := 1) rfl))) (mvT hZ (hw _ (List.mem_of_getElem? (i := 2) rfl))) (mvT hZ (hw _ (List.mem_of_getElem? (i := 3) rfl))) (mvT hZ (hw _ (List.mem_of_getElem? (i := 4) rfl))) (by decide) (backOf (W := 0) (rm1 l Z a0 hw [] (126 : Int32)  h0 n0 (Nat.le_trans Z0 K0.1) ) hZ (hw _ (List.mem_of_getElem? (i := 4) rfl)) (hw _ (List.mem_of_getElem? (i := 3) rfl)) (by decide) (by decide)) (g := (mkF m 47 #[.val (.int p0), .val (.int cc), .val (.int (1 : Int32)), .unset] [(.int (126 : Int32))])) rfl (by rw [hml]; rfl) (argsL := [(.int (126 : Int32))]) (rest := []) (lenOf pd_0 rfl) rfl (by show 2 * 0 + _ ≤ _; exact Nat.le_of_eq rfl) (hb hby at_47) (fun _ _ => ⟨rfl, eq2, (by decide : 0 + 0 ≤ _), (by decide : 0 + 0 ≤ _)⟩)
      dsimp only [Pt.U, Pt.locs, Pt.cells, Pt.slots] at X3 l3 y3 z3 st3 hQ3
      subst l3 y3 z3
      obtain ⟨rfl, Nq3, eq3⟩ := hQ3
      have N3 := Fr.app N2 Nq3
      refine Runs.by (fun t hr => st3 t hr) ?_
      rw [show own_ind (126 : Int32) = (1 : Int32) from by decide]
      show Runs p e below _ (T3.setTop (mkF m 50 #[.val (.int p0), .val (.int cc), .val (.int (1 : Int32)), .unset] [(.int (1 : Int32))]))
      have hc50 : ¬ ((1 : Int32) = (0 : Int32)) := (by decide)
      refine Runs.by (fun _ hr => XS.ifNo X3.here hx rfl (hb hby at_50) rfl ((if0 _ _).trans (feq hc50).1) hr) ?_
      show Runs p e below _ (T3.setTop (mkF m 53 #[.val (.int p0), .val (.int cc), .val (.int (1 : Int32)), .unset] []))
      refine Runs.by (fun _ hr => XS.bipush X3.here hx rfl (hb hby at_53) hr) ?_
      show Runs p e below _ (T3.setTop (mkF m 55 #[.val (.int p0), .val (.int cc), .val (.int (1 : Int32)), .unset] [(.int (31 : Int32))]))
      obtain ⟨_, _, ⟨T4, L4, k4, n4⟩, -, X4, ⟨Lc4, hQ4, l4, y4, z4⟩, st4⟩ := Jvm.LawKit.callS X3 hx (y := (⟨"com/example/vedette/vedette/record/DataZone", "isIndicator", "(C)Z"⟩ : MethodName)) hown (mvT hZ (hw _ (List.mem_of_getElem? (i := 1) rfl))) (mvT hZ (hw _ (List.mem_of_getElem? (i := 2) rfl))) (mvT hZ (hw _ (List.mem_of_getElem? (i := 3) rfl))) (mvT hZ (hw _ (List.mem_of_getElem? (i := 4) rfl))) (by decide) (backOf (W := 0) (rm1 l Z a0 hw [] (31 : Int32)  h0 n0 (Nat.le_trans Z0 K0.1) ) hZ (hw _ (List.mem_of_getElem? (i := 4) rfl)) (hw _ (List.mem_of_getElem? (i := 3) rfl)) (by decide) (by decide)) (g := (mkF m 55 #[.val (.int p0), .val (.int cc), .val (.int (1 : Int32)), .unset] [(.int (31 : Int32))])) rfl (by rw [hml]; rfl) (argsL := [(.int (31 : Int32))]) (rest := []) (lenOf pd_0 rfl) rfl (by show 2 * 0 + _ ≤ _; exact Nat.le_of_eq rfl) (hb hby at_55) (fun _ _ => ⟨rfl, eq3, (by decide : 0 + 0 ≤ _), (by decide : 0 + 0 ≤ _)⟩)
      dsimp only [Pt.U, Pt.locs, Pt.cells, Pt.slots] at X4 l4 y4 z4 st4 hQ4
      subst l4 y4 z4
      obtain ⟨rfl, Nq4, eq4⟩ := hQ4
      have N4 := Fr.app N3 Nq4
      refine Runs.by (fun t hr => st4 t hr) ?_
      rw [show own_ind (31 : Int32) = (0 : Int32) from by decide]
      show Runs p e below _ (T4.setTop (mkF m 58 #[.val (.int p0), .val (.int cc), .val (.int (1 : Int32)), .unset] [(.int (0 : Int32))]))
      have hc58 : (0 : Int32) = (0 : Int32) := (by decide)
      refine Runs.by (fun _ hr => XS.ifNo X4.here hx rfl (hb hby at_58) rfl ((if0 _ _).trans (teq hc58).2) hr) ?_
      show Runs p e below _ (T4.setTop (mkF m 61 #[.val (.int p0), .val (.int cc), .val (.int (1 : Int32)), .unset] []))
      refine Runs.by (fun _ hr => XS.bipush X4.here hx rfl (hb hby at_61) hr) ?_
      show Runs p e below _ (T4.setTop (mkF m 63 #[.val (.int p0), .val (.int cc), .val (.int (1 : Int32)), .unset] [(.int (127 : Int32))]))
      obtain ⟨_, _, ⟨T5, L5, k5, n5⟩, -, X5, ⟨Lc5, hQ5, l5, y5, z5⟩, st5⟩ := Jvm.LawKit.callS X4 hx (y := (⟨"com/example/vedette/vedette/record/DataZone", "isIndicator", "(C)Z"⟩ : MethodName)) hown (mvT hZ (hw _ (List.mem_of_getElem? (i := 1) rfl))) (mvT hZ (hw _ (List.mem_of_getElem? (i := 2) rfl))) (mvT hZ (hw _ (List.mem_of_getElem? (i := 3) rfl))) (mvT hZ (hw _ (List.mem_of_getElem? (i := 4) rfl))) (by decide) (backOf (W := 0) (rm1 l Z a0 hw [] (127 : Int32)  h0 n0 (Nat.le_trans Z0 K0.1) ) hZ (hw _ (List.mem_of_getElem? (i := 4) rfl)) (hw _ (List.mem_of_getElem? (i := 3) rfl)) (by decide) (by decide)) (g := (mkF m 63 #[.val (.int p0), .val (.int cc), .val (.int (1 : Int32)), .unset] [(.int (127 : Int32))])) rfl (by rw [hml]; rfl) (argsL := [(.int (127 : Int32))]) (rest := []) (lenOf pd_0 rfl) rfl (by show 2 * 0 + _ ≤ _; exact Nat.le_of_eq rfl) (hb hby at_63) (fun _ _ => ⟨rfl, eq4, (by decide : 0 + 0 ≤ _), (by decide : 0 + 0 ≤ _)⟩)
      dsimp only [Pt.U, Pt.locs, Pt.cells, Pt.slots] at X5 l5 y5 z5 st5 hQ5
      subst l5 y5 z5
      obtain ⟨rfl, Nq5, eq5⟩ := hQ5
      have N5 := Fr.app N4 Nq5
      refine Runs.by (fun t hr => st5 t hr) ?_
      rw [show own_ind (127 : Int32) = (0 : Int32) from by decide]
      show Runs p e below _ (T5.setTop (mkF m 66 #[.val (.int p0), .val (.int cc), .val (.int (1 : Int32)), .unset] [(.int (0 : Int32))]))
      have hc66 : (0 : Int32) = (0 : Int32) := (by decide)
      refine Runs.by (fun _ hr => XS.ifNo X5.here hx rfl (hb hby at_66) rfl ((if0 _ _).trans (teq hc66).2) hr) ?_
      show Runs p e below _ (T5.setTop (mkF m 69 #[.val (.int p0), .val (.int cc), .val (.int (1 : Int32)), .unset] []))
      refine Runs.by (fun _ hr => XS.iconst X5.here hx rfl (hb hby at_69) hr) ?_
      show Runs p e below _ (T5.setTop (mkF m 70 #[.val (.int p0), .val (.int cc), .val (.int (1 : Int32)), .unset] [(.int (1 : Int32))]))
      refine Runs.by (fun _ hr => XS.goto X5.here hx rfl (pc0 := 70) (pc' := 74) rfl (hb hby at_70) (by decide) (by decide) hr) ?_
      show Runs p e below _ (T5.setTop (mkF m 74 #[.val (.int p0), .val (.int cc), .val (.int (1 : Int32)), .unset] [(.int (1 : Int32))]))
      refine Runs.by (fun _ hr => XS.istoreN X5.here hx rfl (hb hby at_74) rfl (l' := #[.val (.int p0), .val (.int cc), .val (.int (1 : Int32)), .val (.int (1 : Int32))]) rfl hr) ?_
      show Runs p e below _ (T5.setTop (mkF m 75 #[.val (.int p0), .val (.int cc), .val (.int (1 : Int32)), .val (.int (1 : Int32))] []))
      refine Runs.by (fun _ hr => XS.iloadN X5.here hx rfl (hb hby at_75) rfl  hr) ?_
      show Runs p e below _ (T5.setTop (mkF m 76 #[.val (.int p0), .val (.int cc), .val (.int (1 : Int32)), .val (.int (1 : Int32))] [(.int (1 : Int32))]))
      have hc76 : ¬ ((1 : Int32) = (0 : Int32)) := (by decide)
      refine Runs.by (fun _ hr => XS.ifNo X5.here hx rfl (hb hby at_76) rfl ((if0 _ _).trans (feq hc76).1) hr) ?_
      show Runs p e below _ (T5.setTop (mkF m 79 #[.val (.int p0), .val (.int cc), .val (.int (1 : Int32)), .val (.int (1 : Int32))] []))
      refine Runs.by (fun _ hr => XS.iloadN X5.here hx rfl (hb hby at_79) rfl  hr) ?_
      show Runs p e below _ (T5.setTop (mkF m 80 #[.val (.int p0), .val (.int cc), .val (.int (1 : Int32)), .val (.int (1 : Int32))] [(.int (1 : Int32))]))
      have hc80 : ¬ ((1 : Int32) = (0 : Int32)) := (by decide)
      refine Runs.by (fun _ hr => XS.ifNo X5.here hx rfl (hb hby at_80) rfl ((if0 _ _).trans (feq hc80).1) hr) ?_
      show Runs p e below _ (T5.setTop (mkF m 83 #[.val (.int p0), .val (.int cc), .val (.int (1 : Int32)), .val (.int (1 : Int32))] []))
      refine Runs.by (fun _ hr => XS.iconst X5.here hx rfl (hb hby at_83) hr) ?_
      show Runs p e below _ (T5.setTop (mkF m 84 #[.val (.int p0), .val (.int cc), .val (.int (1 : Int32)), .val (.int (1 : Int32))] [(.int (1 : Int32))]))
      refine Runs.by (fun _ hr => XS.goto X5.here hx rfl (pc0 := 84) (pc' := 88) rfl (hb hby at_84) (by decide) (by decide) hr) ?_
      show Runs p e below _ (T5.setTop (mkF m 88 #[.val (.int p0), .val (.int cc), .val (.int (1 : Int32)), .val (.int (1 : Int32))] [(.int (1 : Int32))]))
      refine Runs.ret X5 hx hrt hlk (Or.inl ⟨rfl, by simp, _, rfl⟩) (by rfl) (hb hby at_88) (by decide) (by decide) ?_
      rw [eq5]
      exact ⟨rfl, N5⟩
    · -- pc 13: not cc = (32 : Int32)
      refine Runs.by (fun _ hr => XS.icmpNo X1.here hx rfl (hb hby at_13) rfl (feq hc13).1 hr) ?_
      show Runs p e below _ (T1.setTop (mkF m 16 #[.val (.int p0), .val (.int cc), .unset, .unset] [(.int (1 : Int32))]))
      refine Runs.by (fun _ hr => XS.iloadN X1.here hx rfl (hb hby at_16) rfl  hr) ?_
      show Runs p e below _ (T1.setTop (mkF m 17 #[.val (.int p0), .val (.int cc), .unset, .unset] [(.int cc), (.int (1 : Int32))]))
      obtain ⟨_, _, ⟨T6, L6, k6, n6⟩, -, X6, ⟨Lc6, hQ6, l6, y6, z6⟩, st6⟩ := Jvm.LawKit.callS X1 hx (y := (⟨"com/example/vedette/vedette/record/Subfield", "isCode", "(C)Z"⟩ : MethodName)) hown (mvT hZ (hw _ (List.mem_of_getElem? (i := 5) rfl))) (mvT hZ (hw _ (List.mem_of_getElem? (i := 6) rfl))) (mvT hZ (hw _ (List.mem_of_getElem? (i := 7) rfl))) (mvT hZ (hw _ (List.mem_of_getElem? (i := 8) rfl))) (by decide) (backOf (W := 1) (rm2 l Z a0 hw [] cc  h0 n0 (Nat.le_trans Z0 K0.1) ) hZ (hw _ (List.mem_of_getElem? (i := 8) rfl)) (hw _ (List.mem_of_getElem? (i := 7) rfl)) (by decide) (by decide)) (g := (mkF m 17 #[.val (.int p0), .val (.int cc), .unset, .unset] [(.int cc), (.int (1 : Int32))])) rfl (by rw [hml]; rfl) (argsL := [(.int cc)]) (rest := [(.int (1 : Int32))]) (lenOf pd_0 rfl) rfl (by show 2 * 0 + _ ≤ _; exact Nat.le_of_eq rfl) (hb hby at_17) (fun _ _ => ⟨rfl, eq1, (by decide : 0 + 0 ≤ _), (by decide : 0 + 0 ≤ _)⟩)
      dsimp only [Pt.U, Pt.locs, Pt.cells, Pt.slots] at X6 l6 y6 z6 st6 hQ6
      subst l6 y6 z6
      obtain ⟨rfl, Nq6, eq6⟩ := hQ6
      have N6 := Fr.app N1 Nq6
      refine Runs.by (fun t hr => st6 t hr) ?_
      rcases own_code_c cc with ⟨hv2, hl2⟩ | ⟨hv2, hl2⟩ <;> rw [hv2]
      · skip
        show Runs p e below _ (T6.setTop (mkF m 20 #[.val (.int p0), .val (.int cc), .unset, .unset] [(.int (1 : Int32)), (.int (1 : Int32))]))
        have hc20 : ¬ ((1 : Int32) = (0 : Int32)) := (by decide)
        refine Runs.by (fun _ hr => XS.ifNo X6.here hx rfl (hb hby at_20) rfl ((if0 _ _).trans (feq hc20).1) hr) ?_
        show Runs p e below _ (T6.setTop (mkF m 23 #[.val (.int p0), .val (.int cc), .unset, .unset] [(.int (1 : Int32))]))
        refine Runs.by (fun _ hr => XS.iconst X6.here hx rfl (hb hby at_23) hr) ?_
        show Runs p e below _ (T6.setTop (mkF m 24 #[.val (.int p0), .val (.int cc), .unset, .unset] [(.int (1 : Int32)), (.int (1 : Int32))]))
        refine Runs.by (fun _ hr => XS.goto X6.here hx rfl (pc0 := 24) (pc' := 28) rfl (hb hby at_24) (by decide) (by decide) hr) ?_
        show Runs p e below _ (T6.setTop (mkF m 28 #[.val (.int p0), .val (.int cc), .unset, .unset] [(.int (1 : Int32)), (.int (1 : Int32))]))
        have hc28 : (1 : Int32) = (1 : Int32) := (by decide)
        refine Runs.by (fun _ hr => XS.icmpNo X6.here hx rfl (hb hby at_28) rfl (teq hc28).2 hr) ?_
        show Runs p e below _ (T6.setTop (mkF m 31 #[.val (.int p0), .val (.int cc), .unset, .unset] []))
        refine Runs.by (fun _ hr => XS.iconst X6.here hx rfl (hb hby at_31) hr) ?_
        show Runs p e below _ (T6.setTop (mkF m 32 #[.val (.int p0), .val (.int cc), .unset, .unset] [(.int (1 : Int32))]))
        refine Runs.by (fun _ hr => XS.goto X6.here hx rfl (pc0 := 32) (pc' := 36) rfl (hb hby at_32) (by decide) (by decide) hr) ?_
        show Runs p e below _ (T6.setTop (mkF m 36 #[.val (.int p0), .val (.int cc), .unset, .unset] [(.int (1 : Int32))]))
        refine Runs.by (fun _ hr => XS.istoreN X6.here hx rfl (hb hby at_36) rfl (l' := #[.val (.int p0), .val (.int cc), .val (.int (1 : Int32)), .unset]) rfl hr) ?_
        show Runs p e below _ (T6.setTop (mkF m 37 #[.val (.int p0), .val (.int cc), .val (.int (1 : Int32)), .unset] []))
        refine Runs.by (fun _ hr => XS.bipush X6.here hx rfl (hb hby at_37) hr) ?_
        show Runs p e below _ (T6.setTop (mkF m 39 #[.val (.int p0), .val (.int cc), .val (.int (1 : Int32)), .unset] [(.int (32 : Int32))]))
        obtain ⟨_, _, ⟨T7, L7, k7, n7⟩, -, X7, ⟨Lc7, hQ7, l7, y7, z7⟩, st7⟩ := Jvm.LawKit.callS X6 hx (y := (⟨"com/example/vedette/vedette/record/DataZone", "isIndicator", "(C)Z"⟩ : MethodName)) hown (mvT hZ (hw _ (List.mem_of_getElem? (i := 1) rfl))) (mvT hZ (hw _ (List.mem_of_getElem? (i := 2) rfl))) (mvT hZ (hw _ (List.mem_of_getElem? (i := 3) rfl))) (mvT hZ (hw _ (List.mem_of_getElem? (i := 4) rfl))) (by decide) (backOf (W := 0) (rm1 l Z a0 hw [] (32 : Int32)  h0 n0 (Nat.le_trans Z0 K0.1) ) hZ (hw _ (List.mem_of_getElem? (i := 4) rfl)) (hw _ (List.mem_of_getElem? (i := 3) rfl)) (by decide) (by decide)) (g := (mkF m 39 #[.val (.int p0), .val (.int cc), .val (.int (1 : Int32)), .unset] [(.int (32 : Int32))])) rfl (by rw [hml]; rfl) (argsL := [(.int (32 : Int32))]) (rest := []) (lenOf pd_0 rfl) rfl (by show 2 * 0 + _ ≤ _; exact Nat.le_of_eq rfl) (hb hby at_39) (fun _ _ => ⟨rfl, eq6, (by decide : 0 + 0 ≤ _), (by decide : 0 + 0 ≤ _)⟩)
        dsimp only [Pt.U, Pt.locs, Pt.cells, Pt.slots] at X7 l7 y7 z7 st7 hQ7
        subst l7 y7 z7
        obtain ⟨rfl, Nq7, eq7⟩ := hQ7
        have N7 := Fr.app N6 Nq7
        refine Runs.by (fun t hr => st7 t hr) ?_
        rw [show own_ind (32 : Int32) = (1 : Int32) from by decide]
        show Runs p e below _ (T7.setTop (mkF m 42 #[.val (.int p0), .val (.int cc), .val (.int (1 : Int32)), .unset] [(.int (1 : Int32))]))
        have hc42 : ¬ ((1 : Int32) = (0 : Int32)) := (by decide)
        refine Runs.by (fun _ hr => XS.ifNo X7.here hx rfl (hb hby at_42) rfl ((if0 _ _).trans (feq hc42).1) hr) ?_
        show Runs p e below _ (T7.setTop (mkF m 45 #[.val (.int p0), .val (.int cc), .val (.int (1 : Int32)), .unset] []))
        refine Runs.by (fun _ hr => XS.bipush X7.here hx rfl (hb hby at_45) hr) ?_
        show Runs p e below _ (T7.setTop (mkF m 47 #[.val (.int p0), .val (.int cc), .val (.int (1 : Int32)), .unset] [(.int (126 : Int32))]))
        obtain ⟨_, _, ⟨T8, L8, k8, n8⟩, -, X8, ⟨Lc8, hQ8, l8, y8, z8⟩, st8⟩ := Jvm.LawKit.callS X7 hx (y := (⟨"com/example/vedette/vedette/record/DataZone", "isIndicator", "(C)Z"⟩ : MethodName)) hown (mvT hZ (hw _ (List.mem_of_getElem? (i := 1) rfl))) (mvT hZ (hw _ (List.mem_of_getElem? (i := 2) rfl))) (mvT hZ (hw _ (List.mem_of_getElem? (i := 3) rfl))) (mvT hZ (hw _ (List.mem_of_getElem? (i := 4) rfl))) (by decide) (backOf (W := 0) (rm1 l Z a0 hw [] (126 : Int32)  h0 n0 (Nat.le_trans Z0 K0.1) ) hZ (hw _ (List.mem_of_getElem? (i := 4) rfl)) (hw _ (List.mem_of_getElem? (i := 3) rfl)) (by decide) (by decide)) (g := (mkF m 47 #[.val (.int p0), .val (.int cc), .val (.int (1 : Int32)), .unset] [(.int (126 : Int32))])) rfl (by rw [hml]; rfl) (argsL := [(.int (126 : Int32))]) (rest := []) (lenOf pd_0 rfl) rfl (by show 2 * 0 + _ ≤ _; exact Nat.le_of_eq rfl) (hb hby at_47) (fun _ _ => ⟨rfl, eq7, (by decide : 0 + 0 ≤ _), (by decide : 0 + 0 ≤ _)⟩)
        dsimp only [Pt.U, Pt.locs, Pt.cells, Pt.slots] at X8 l8 y8 z8 st8 hQ8
        subst l8 y8 z8
        obtain ⟨rfl, Nq8, eq8⟩ := hQ8
        have N8 := Fr.app N7 Nq8
        refine Runs.by (fun t hr => st8 t hr) ?_
        rw [show own_ind (126 : Int32) = (1 : Int32) from by decide]
        show Runs p e below _ (T8.setTop (mkF m 50 #[.val (.int p0), .val (.int cc), .val (.int (1 : Int32)), .unset] [(.int (1 : Int32))]))
        have hc50 : ¬ ((1 : Int32) = (0 : Int32)) := (by decide)
        refine Runs.by (fun _ hr => XS.ifNo X8.here hx rfl (hb hby at_50) rfl ((if0 _ _).trans (feq hc50).1) hr) ?_
        show Runs p e below _ (T8.setTop (mkF m 53 #[.val (.int p0), .val (.int cc), .val (.int (1 : Int32)), .unset] []))
        refine Runs.by (fun _ hr => XS.bipush X8.here hx rfl (hb hby at_53) hr) ?_
        show Runs p e below _ (T8.setTop (mkF m 55 #[.val (.int p0), .val (.int cc), .val (.int (1 : Int32)), .unset] [(.int (31 : Int32))]))
        obtain ⟨_, _, ⟨T9, L9, k9, n9⟩, -, X9, ⟨Lc9, hQ9, l9, y9, z9⟩, st9⟩ := Jvm.LawKit.callS X8 hx (y := (⟨"com/example/vedette/vedette/record/DataZone", "isIndicator", "(C)Z"⟩ : MethodName)) hown (mvT hZ (hw _ (List.mem_of_getElem? (i := 1) rfl))) (mvT hZ (hw _ (List.mem_of_getElem? (i := 2) rfl))) (mvT hZ (hw _ (List.mem_of_getElem? (i := 3) rfl))) (mvT hZ (hw _ (List.mem_of_getElem? (i := 4) rfl))) (by decide) (backOf (W := 0) (rm1 l Z a0 hw [] (31 : Int32)  h0 n0 (Nat.le_trans Z0 K0.1) ) hZ (hw _ (List.mem_of_getElem? (i := 4) rfl)) (hw _ (List.mem_of_getElem? (i := 3) rfl)) (by decide) (by decide)) (g := (mkF m 55 #[.val (.int p0), .val (.int cc), .val (.int (1 : Int32)), .unset] [(.int (31 : Int32))])) rfl (by rw [hml]; rfl) (argsL := [(.int (31 : Int32))]) (rest := []) (lenOf pd_0 rfl) rfl (by show 2 * 0 + _ ≤ _; exact Nat.le_of_eq rfl) (hb hby at_55) (fun _ _ => ⟨rfl, eq8, (by decide : 0 + 0 ≤ _), (by decide : 0 + 0 ≤ _)⟩)
        dsimp only [Pt.U, Pt.locs, Pt.cells, Pt.slots] at X9 l9 y9 z9 st9 hQ9
        subst l9 y9 z9
        obtain ⟨rfl, Nq9, eq9⟩ := hQ9
        have N9 := Fr.app N8 Nq9
        refine Runs.by (fun t hr => st9 t hr) ?_
        rw [show own_ind (31 : Int32) = (0 : Int32) from by decide]
        show Runs p e below _ (T9.setTop (mkF m 58 #[.val (.int p0), .val (.int cc), .val (.int (1 : Int32)), .unset] [(.int (0 : Int32))]))
        have hc58 : (0 : Int32) = (0 : Int32) := (by decide)
        refine Runs.by (fun _ hr => XS.ifNo X9.here hx rfl (hb hby at_58) rfl ((if0 _ _).trans (teq hc58).2) hr) ?_
        show Runs p e below _ (T9.setTop (mkF m 61 #[.val (.int p0), .val (.int cc), .val (.int (1 : Int32)), .unset] []))
        refine Runs.by (fun _ hr => XS.bipush X9.here hx rfl (hb hby at_61) hr) ?_
        show Runs p e below _ (T9.setTop (mkF m 63 #[.val (.int p0), .val (.int cc), .val (.int (1 : Int32)), .unset] [(.int (127 : Int32))]))
        obtain ⟨_, _, ⟨T10, L10, k10, n10⟩, -, X10, ⟨Lc10, hQ10, l10, y10, z10⟩, st10⟩ := Jvm.LawKit.callS X9 hx (y := (⟨"com/example/vedette/vedette/record/DataZone", "isIndicator", "(C)Z"⟩ : MethodName)) hown (mvT hZ (hw _ (List.mem_of_getElem? (i := 1) rfl))) (mvT hZ (hw _ (List.mem_of_getElem? (i := 2) rfl))) (mvT hZ (hw _ (List.mem_of_getElem? (i := 3) rfl))) (mvT hZ (hw _ (List.mem_of_getElem? (i := 4) rfl))) (by decide) (backOf (W := 0) (rm1 l Z a0 hw [] (127 : Int32)  h0 n0 (Nat.le_trans Z0 K0.1) ) hZ (hw _ (List.mem_of_getElem? (i := 4) rfl)) (hw _ (List.mem_of_getElem? (i := 3) rfl)) (by decide) (by decide)) (g := (mkF m 63 #[.val (.int p0), .val (.int cc), .val (.int (1 : Int32)), .unset] [(.int (127 : Int32))])) rfl (by rw [hml]; rfl) (argsL := [(.int (127 : Int32))]) (rest := []) (lenOf pd_0 rfl) rfl (by show 2 * 0 + _ ≤ _; exact Nat.le_of_eq rfl) (hb hby at_63) (fun _ _ => ⟨rfl, eq9, (by decide : 0 + 0 ≤ _), (by decide : 0 + 0 ≤ _)⟩)
        dsimp only [Pt.U, Pt.locs, Pt.cells, Pt.slots] at X10 l10 y10 z10 st10 hQ10
        subst l10 y10 z10
        obtain ⟨rfl, Nq10, eq10⟩ := hQ10
        have N10 := Fr.app N9 Nq10
        refine Runs.by (fun t hr => st10 t hr) ?_
        rw [show own_ind (127 : Int32) = (0 : Int32) from by decide]
        show Runs p e below _ (T10.setTop (mkF m 66 #[.val (.int p0), .val (.int cc), .val (.int (1 : Int32)), .unset] [(.int (0 : Int32))]))
        have hc66 : (0 : Int32) = (0 : Int32) := (by decide)
        refine Runs.by (fun _ hr => XS.ifNo X10.here hx rfl (hb hby at_66) rfl ((if0 _ _).trans (teq hc66).2) hr) ?_
        show Runs p e below _ (T10.setTop (mkF m 69 #[.val (.int p0), .val (.int cc), .val (.int (1 : Int32)), .unset] []))
        refine Runs.by (fun _ hr => XS.iconst X10.here hx rfl (hb hby at_69) hr) ?_
        show Runs p e below _ (T10.setTop (mkF m 70 #[.val (.int p0), .val (.int cc), .val (.int (1 : Int32)), .unset] [(.int (1 : Int32))]))
        refine Runs.by (fun _ hr => XS.goto X10.here hx rfl (pc0 := 70) (pc' := 74) rfl (hb hby at_70) (by decide) (by decide) hr) ?_
        show Runs p e below _ (T10.setTop (mkF m 74 #[.val (.int p0), .val (.int cc), .val (.int (1 : Int32)), .unset] [(.int (1 : Int32))]))
        refine Runs.by (fun _ hr => XS.istoreN X10.here hx rfl (hb hby at_74) rfl (l' := #[.val (.int p0), .val (.int cc), .val (.int (1 : Int32)), .val (.int (1 : Int32))]) rfl hr) ?_
        show Runs p e below _ (T10.setTop (mkF m 75 #[.val (.int p0), .val (.int cc), .val (.int (1 : Int32)), .val (.int (1 : Int32))] []))
        refine Runs.by (fun _ hr => XS.iloadN X10.here hx rfl (hb hby at_75) rfl  hr) ?_
        show Runs p e below _ (T10.setTop (mkF m 76 #[.val (.int p0), .val (.int cc), .val (.int (1 : Int32)), .val (.int (1 : Int32))] [(.int (1 : Int32))]))
        have hc76 : ¬ ((1 : Int32) = (0 : Int32)) := (by decide)
        refine Runs.by (fun _ hr => XS.ifNo X10.here hx rfl (hb hby at_76) rfl ((if0 _ _).trans (feq hc76).1) hr) ?_
        show Runs p e below _ (T10.setTop (mkF m 79 #[.val (.int p0), .val (.int cc), .val (.int (1 : Int32)), .val (.int (1 : Int32))] []))
        refine Runs.by (fun _ hr => XS.iloadN X10.here hx rfl (hb hby at_79) rfl  hr) ?_
        show Runs p e below _ (T10.setTop (mkF m 80 #[.val (.int p0), .val (.int cc), .val (.int (1 : Int32)), .val (.int (1 : Int32))] [(.int (1 : Int32))]))
        have hc80 : ¬ ((1 : Int32) = (0 : Int32)) := (by decide)
        refine Runs.by (fun _ hr => XS.ifNo X10.here hx rfl (hb hby at_80) rfl ((if0 _ _).trans (feq hc80).1) hr) ?_
        show Runs p e below _ (T10.setTop (mkF m 83 #[.val (.int p0), .val (.int cc), .val (.int (1 : Int32)), .val (.int (1 : Int32))] []))
        refine Runs.by (fun _ hr => XS.iconst X10.here hx rfl (hb hby at_83) hr) ?_
        show Runs p e below _ (T10.setTop (mkF m 84 #[.val (.int p0), .val (.int cc), .val (.int (1 : Int32)), .val (.int (1 : Int32))] [(.int (1 : Int32))]))
        refine Runs.by (fun _ hr => XS.goto X10.here hx rfl (pc0 := 84) (pc' := 88) rfl (hb hby at_84) (by decide) (by decide) hr) ?_
        show Runs p e below _ (T10.setTop (mkF m 88 #[.val (.int p0), .val (.int cc), .val (.int (1 : Int32)), .val (.int (1 : Int32))] [(.int (1 : Int32))]))
        refine Runs.ret X10 hx hrt hlk (Or.inl ⟨rfl, by simp, _, rfl⟩) (by rfl) (hb hby at_88) (by decide) (by decide) ?_
        rw [eq10]
        exact ⟨rfl, N10⟩
      · skip
        show Runs p e below _ (T6.setTop (mkF m 20 #[.val (.int p0), .val (.int cc), .unset, .unset] [(.int (0 : Int32)), (.int (1 : Int32))]))
        have hc20 : (0 : Int32) = (0 : Int32) := (by decide)
        refine Runs.by (fun _ hr => XS.ifYes X6.here hx rfl (pc0 := 20) (pc' := 27) rfl (hb hby at_20) rfl ((if0 _ _).trans (teq hc20).1) (by decide) (by decide) hr) ?_
        show Runs p e below _ (T6.setTop (mkF m 27 #[.val (.int p0), .val (.int cc), .unset, .unset] [(.int (1 : Int32))]))
        refine Runs.by (fun _ hr => XS.iconst X6.here hx rfl (hb hby at_27) hr) ?_
        exfalso
        have e32 : (32 : Int32).toInt = 32 := by decide
        first | (have q := congrArg Int32.toInt hc13; omega) | (have q : cc.toInt ≠ 32 := fun q => hc13 (Int32.toInt_inj.mp (q.trans e32.symm)); omega)
  · skip
    show Runs p e below _ (T1.setTop (mkF m 10 #[.val (.int p0), .val (.int cc), .unset, .unset] [(.int (0 : Int32))]))
    refine Runs.by (fun _ hr => XS.iloadN X1.here hx rfl (hb hby at_10) rfl  hr) ?_
    show Runs p e below _ (T1.setTop (mkF m 11 #[.val (.int p0), .val (.int cc), .unset, .unset] [(.int cc), (.int (0 : Int32))]))
    refine Runs.by (fun _ hr => XS.bipush X1.here hx rfl (hb hby at_11) hr) ?_
    show Runs p e below _ (T1.setTop (mkF m 13 #[.val (.int p0), .val (.int cc), .unset, .unset] [(.int (32 : Int32)), (.int cc), (.int (0 : Int32))]))
    by_cases hc13 : cc = (32 : Int32)
    · -- pc 13: cc = (32 : Int32)
      refine Runs.by (fun _ hr => XS.icmpYes X1.here hx rfl (pc0 := 13) (pc' := 23) rfl (hb hby at_13) rfl (teq hc13).1 (by decide) (by decide) hr) ?_
      show Runs p e below _ (T1.setTop (mkF m 23 #[.val (.int p0), .val (.int cc), .unset, .unset] [(.int (0 : Int32))]))
      refine Runs.by (fun _ hr => XS.iconst X1.here hx rfl (hb hby at_23) hr) ?_
      show Runs p e below _ (T1.setTop (mkF m 24 #[.val (.int p0), .val (.int cc), .unset, .unset] [(.int (1 : Int32)), (.int (0 : Int32))]))
      refine Runs.by (fun _ hr => XS.goto X1.here hx rfl (pc0 := 24) (pc' := 28) rfl (hb hby at_24) (by decide) (by decide) hr) ?_
      exfalso
      have e32 : (32 : Int32).toInt = 32 := by decide
      first | (have q := congrArg Int32.toInt hc13; omega) | (have q : cc.toInt ≠ 32 := fun q => hc13 (Int32.toInt_inj.mp (q.trans e32.symm)); omega)
    · -- pc 13: not cc = (32 : Int32)
      refine Runs.by (fun _ hr => XS.icmpNo X1.here hx rfl (hb hby at_13) rfl (feq hc13).1 hr) ?_
      show Runs p e below _ (T1.setTop (mkF m 16 #[.val (.int p0), .val (.int cc), .unset, .unset] [(.int (0 : Int32))]))
      refine Runs.by (fun _ hr => XS.iloadN X1.here hx rfl (hb hby at_16) rfl  hr) ?_
      show Runs p e below _ (T1.setTop (mkF m 17 #[.val (.int p0), .val (.int cc), .unset, .unset] [(.int cc), (.int (0 : Int32))]))
      obtain ⟨_, _, ⟨T11, L11, k11, n11⟩, -, X11, ⟨Lc11, hQ11, l11, y11, z11⟩, st11⟩ := Jvm.LawKit.callS X1 hx (y := (⟨"com/example/vedette/vedette/record/Subfield", "isCode", "(C)Z"⟩ : MethodName)) hown (mvT hZ (hw _ (List.mem_of_getElem? (i := 5) rfl))) (mvT hZ (hw _ (List.mem_of_getElem? (i := 6) rfl))) (mvT hZ (hw _ (List.mem_of_getElem? (i := 7) rfl))) (mvT hZ (hw _ (List.mem_of_getElem? (i := 8) rfl))) (by decide) (backOf (W := 1) (rm2 l Z a0 hw [] cc  h0 n0 (Nat.le_trans Z0 K0.1) ) hZ (hw _ (List.mem_of_getElem? (i := 8) rfl)) (hw _ (List.mem_of_getElem? (i := 7) rfl)) (by decide) (by decide)) (g := (mkF m 17 #[.val (.int p0), .val (.int cc), .unset, .unset] [(.int cc), (.int (0 : Int32))])) rfl (by rw [hml]; rfl) (argsL := [(.int cc)]) (rest := [(.int (0 : Int32))]) (lenOf pd_0 rfl) rfl (by show 2 * 0 + _ ≤ _; exact Nat.le_of_eq rfl) (hb hby at_17) (fun _ _ => ⟨rfl, eq1, (by decide : 0 + 0 ≤ _), (by decide : 0 + 0 ≤ _)⟩)
      dsimp only [Pt.U, Pt.locs, Pt.cells, Pt.slots] at X11 l11 y11 z11 st11 hQ11
      subst l11 y11 z11
      obtain ⟨rfl, Nq11, eq11⟩ := hQ11
      have N11 := Fr.app N1 Nq11
      refine Runs.by (fun t hr => st11 t hr) ?_
      rcases own_code_c cc with ⟨hv2, hl2⟩ | ⟨hv2, hl2⟩ <;> rw [hv2]
      · skip
        show Runs p e below _ (T11.setTop (mkF m 20 #[.val (.int p0), .val (.int cc), .unset, .unset] [(.int (1 : Int32)), (.int (0 : Int32))]))
        have hc20 : ¬ ((1 : Int32) = (0 : Int32)) := (by decide)
        refine Runs.by (fun _ hr => XS.ifNo X11.here hx rfl (hb hby at_20) rfl ((if0 _ _).trans (feq hc20).1) hr) ?_
        show Runs p e below _ (T11.setTop (mkF m 23 #[.val (.int p0), .val (.int cc), .unset, .unset] [(.int (0 : Int32))]))
        refine Runs.by (fun _ hr => XS.iconst X11.here hx rfl (hb hby at_23) hr) ?_
        show Runs p e below _ (T11.setTop (mkF m 24 #[.val (.int p0), .val (.int cc), .unset, .unset] [(.int (1 : Int32)), (.int (0 : Int32))]))
        refine Runs.by (fun _ hr => XS.goto X11.here hx rfl (pc0 := 24) (pc' := 28) rfl (hb hby at_24) (by decide) (by decide) hr) ?_
        exfalso
        have e32 : (32 : Int32).toInt = 32 := by decide
        first | (have q := congrArg Int32.toInt hc13; omega) | (have q : cc.toInt ≠ 32 := fun q => hc13 (Int32.toInt_inj.mp (q.trans e32.symm)); omega)
      · skip
        show Runs p e below _ (T11.setTop (mkF m 20 #[.val (.int p0), .val (.int cc), .unset, .unset] [(.int (0 : Int32)), (.int (0 : Int32))]))
        have hc20 : (0 : Int32) = (0 : Int32) := (by decide)
        refine Runs.by (fun _ hr => XS.ifYes X11.here hx rfl (pc0 := 20) (pc' := 27) rfl (hb hby at_20) rfl ((if0 _ _).trans (teq hc20).1) (by decide) (by decide) hr) ?_
        show Runs p e below _ (T11.setTop (mkF m 27 #[.val (.int p0), .val (.int cc), .unset, .unset] [(.int (0 : Int32))]))
        refine Runs.by (fun _ hr => XS.iconst X11.here hx rfl (hb hby at_27) hr) ?_
        show Runs p e below _ (T11.setTop (mkF m 28 #[.val (.int p0), .val (.int cc), .unset, .unset] [(.int (0 : Int32)), (.int (0 : Int32))]))
        have hc28 : (0 : Int32) = (0 : Int32) := (by decide)
        refine Runs.by (fun _ hr => XS.icmpNo X11.here hx rfl (hb hby at_28) rfl (teq hc28).2 hr) ?_
        show Runs p e below _ (T11.setTop (mkF m 31 #[.val (.int p0), .val (.int cc), .unset, .unset] []))
        refine Runs.by (fun _ hr => XS.iconst X11.here hx rfl (hb hby at_31) hr) ?_
        show Runs p e below _ (T11.setTop (mkF m 32 #[.val (.int p0), .val (.int cc), .unset, .unset] [(.int (1 : Int32))]))
        refine Runs.by (fun _ hr => XS.goto X11.here hx rfl (pc0 := 32) (pc' := 36) rfl (hb hby at_32) (by decide) (by decide) hr) ?_
        show Runs p e below _ (T11.setTop (mkF m 36 #[.val (.int p0), .val (.int cc), .unset, .unset] [(.int (1 : Int32))]))
        refine Runs.by (fun _ hr => XS.istoreN X11.here hx rfl (hb hby at_36) rfl (l' := #[.val (.int p0), .val (.int cc), .val (.int (1 : Int32)), .unset]) rfl hr) ?_
        show Runs p e below _ (T11.setTop (mkF m 37 #[.val (.int p0), .val (.int cc), .val (.int (1 : Int32)), .unset] []))
        refine Runs.by (fun _ hr => XS.bipush X11.here hx rfl (hb hby at_37) hr) ?_
        show Runs p e below _ (T11.setTop (mkF m 39 #[.val (.int p0), .val (.int cc), .val (.int (1 : Int32)), .unset] [(.int (32 : Int32))]))
        obtain ⟨_, _, ⟨T12, L12, k12, n12⟩, -, X12, ⟨Lc12, hQ12, l12, y12, z12⟩, st12⟩ := Jvm.LawKit.callS X11 hx (y := (⟨"com/example/vedette/vedette/record/DataZone", "isIndicator", "(C)Z"⟩ : MethodName)) hown (mvT hZ (hw _ (List.mem_of_getElem? (i := 1) rfl))) (mvT hZ (hw _ (List.mem_of_getElem? (i := 2) rfl))) (mvT hZ (hw _ (List.mem_of_getElem? (i := 3) rfl))) (mvT hZ (hw _ (List.mem_of_getElem? (i := 4) rfl))) (by decide) (backOf (W := 0) (rm1 l Z a0 hw [] (32 : Int32)  h0 n0 (Nat.le_trans Z0 K0.1) ) hZ (hw _ (List.mem_of_getElem? (i := 4) rfl)) (hw _ (List.mem_of_getElem? (i := 3) rfl)) (by decide) (by decide)) (g := (mkF m 39 #[.val (.int p0), .val (.int cc), .val (.int (1 : Int32)), .unset] [(.int (32 : Int32))])) rfl (by rw [hml]; rfl) (argsL := [(.int (32 : Int32))]) (rest := []) (lenOf pd_0 rfl) rfl (by show 2 * 0 + _ ≤ _; exact Nat.le_of_eq rfl) (hb hby at_39) (fun _ _ => ⟨rfl, eq11, (by decide : 0 + 0 ≤ _), (by decide : 0 + 0 ≤ _)⟩)
        dsimp only [Pt.U, Pt.locs, Pt.cells, Pt.slots] at X12 l12 y12 z12 st12 hQ12
        subst l12 y12 z12
        obtain ⟨rfl, Nq12, eq12⟩ := hQ12
        have N12 := Fr.app N11 Nq12
        refine Runs.by (fun t hr => st12 t hr) ?_
        rw [show own_ind (32 : Int32) = (1 : Int32) from by decide]
        show Runs p e below _ (T12.setTop (mkF m 42 #[.val (.int p0), .val (.int cc), .val (.int (1 : Int32)), .unset] [(.int (1 : Int32))]))
        have hc42 : ¬ ((1 : Int32) = (0 : Int32)) := (by decide)
        refine Runs.by (fun _ hr => XS.ifNo X12.here hx rfl (hb hby at_42) rfl ((if0 _ _).trans (feq hc42).1) hr) ?_
        show Runs p e below _ (T12.setTop (mkF m 45 #[.val (.int p0), .val (.int cc), .val (.int (1 : Int32)), .unset] []))
        refine Runs.by (fun _ hr => XS.bipush X12.here hx rfl (hb hby at_45) hr) ?_
        show Runs p e below _ (T12.setTop (mkF m 47 #[.val (.int p0), .val (.int cc), .val (.int (1 : Int32)), .unset] [(.int (126 : Int32))]))
        obtain ⟨_, _, ⟨T13, L13, k13, n13⟩, -, X13, ⟨Lc13, hQ13, l13, y13, z13⟩, st13⟩ := Jvm.LawKit.callS X12 hx (y := (⟨"com/example/vedette/vedette/record/DataZone", "isIndicator", "(C)Z"⟩ : MethodName)) hown (mvT hZ (hw _ (List.mem_of_getElem? (i := 1) rfl))) (mvT hZ (hw _ (List.mem_of_getElem? (i := 2) rfl))) (mvT hZ (hw _ (List.mem_of_getElem? (i := 3) rfl))) (mvT hZ (hw _ (List.mem_of_getElem? (i := 4) rfl))) (by decide) (backOf (W := 0) (rm1 l Z a0 hw [] (126 : Int32)  h0 n0 (Nat.le_trans Z0 K0.1) ) hZ (hw _ (List.mem_of_getElem? (i := 4) rfl)) (hw _ (List.mem_of_getElem? (i := 3) rfl)) (by decide) (by decide)) (g := (mkF m 47 #[.val (.int p0), .val (.int cc), .val (.int (1 : Int32)), .unset] [(.int (126 : Int32))])) rfl (by rw [hml]; rfl) (argsL := [(.int (126 : Int32))]) (rest := []) (lenOf pd_0 rfl) rfl (by show 2 * 0 + _ ≤ _; exact Nat.le_of_eq rfl) (hb hby at_47) (fun _ _ => ⟨rfl, eq12, (by decide : 0 + 0 ≤ _), (by decide : 0 + 0 ≤ _)⟩)
        dsimp only [Pt.U, Pt.locs, Pt.cells, Pt.slots] at X13 l13 y13 z13 st13 hQ13
        subst l13 y13 z13
        obtain ⟨rfl, Nq13, eq13⟩ := hQ13
        have N13 := Fr.app N12 Nq13
        refine Runs.by (fun t hr => st13 t hr) ?_
        rw [show own_ind (126 : Int32) = (1 : Int32) from by decide]
        show Runs p e below _ (T13.setTop (mkF m 50 #[.val (.int p0), .val (.int cc), .val (.int (1 : Int32)), .unset] [(.int (1 : Int32))]))
        have hc50 : ¬ ((1 : Int32) = (0 : Int32)) := (by decide)
        refine Runs.by (fun _ hr => XS.ifNo X13.here hx rfl (hb hby at_50) rfl ((if0 _ _).trans (feq hc50).1) hr) ?_
        show Runs p e below _ (T13.setTop (mkF m 53 #[.val (.int p0), .val (.int cc), .val (.int (1 : Int32)), .unset] []))
        refine Runs.by (fun _ hr => XS.bipush X13.here hx rfl (hb hby at_53) hr) ?_
        show Runs p e below _ (T13.setTop (mkF m 55 #[.val (.int p0), .val (.int cc), .val (.int (1 : Int32)), .unset] [(.int (31 : Int32))]))
        obtain ⟨_, _, ⟨T14, L14, k14, n14⟩, -, X14, ⟨Lc14, hQ14, l14, y14, z14⟩, st14⟩ := Jvm.LawKit.callS X13 hx (y := (⟨"com/example/vedette/vedette/record/DataZone", "isIndicator", "(C)Z"⟩ : MethodName)) hown (mvT hZ (hw _ (List.mem_of_getElem? (i := 1) rfl))) (mvT hZ (hw _ (List.mem_of_getElem? (i := 2) rfl))) (mvT hZ (hw _ (List.mem_of_getElem? (i := 3) rfl))) (mvT hZ (hw _ (List.mem_of_getElem? (i := 4) rfl))) (by decide) (backOf (W := 0) (rm1 l Z a0 hw [] (31 : Int32)  h0 n0 (Nat.le_trans Z0 K0.1) ) hZ (hw _ (List.mem_of_getElem? (i := 4) rfl)) (hw _ (List.mem_of_getElem? (i := 3) rfl)) (by decide) (by decide)) (g := (mkF m 55 #[.val (.int p0), .val (.int cc), .val (.int (1 : Int32)), .unset] [(.int (31 : Int32))])) rfl (by rw [hml]; rfl) (argsL := [(.int (31 : Int32))]) (rest := []) (lenOf pd_0 rfl) rfl (by show 2 * 0 + _ ≤ _; exact Nat.le_of_eq rfl) (hb hby at_55) (fun _ _ => ⟨rfl, eq13, (by decide : 0 + 0 ≤ _), (by decide : 0 + 0 ≤ _)⟩)
        dsimp only [Pt.U, Pt.locs, Pt.cells, Pt.slots] at X14 l14 y14 z14 st14 hQ14
        subst l14 y14 z14
        obtain ⟨rfl, Nq14, eq14⟩ := hQ14
        have N14 := Fr.app N13 Nq14
        refine Runs.by (fun t hr => st14 t hr) ?_
        rw [show own_ind (31 : Int32) = (0 : Int32) from by decide]
        show Runs p e below _ (T14.setTop (mkF m 58 #[.val (.int p0), .val (.int cc), .val (.int (1 : Int32)), .unset] [(.int (0 : Int32))]))
        have hc58 : (0 : Int32) = (0 : Int32) := (by decide)
        refine Runs.by (fun _ hr => XS.ifNo X14.here hx rfl (hb hby at_58) rfl ((if0 _ _).trans (teq hc58).2) hr) ?_
        show Runs p e below _ (T14.setTop (mkF m 61 #[.val (.int p0), .val (.int cc), .val (.int (1 : Int32)), .unset] []))
        refine Runs.by (fun _ hr => XS.bipush X14.here hx rfl (hb hby at_61) hr) ?_
        show Runs p e below _ (T14.setTop (mkF m 63 #[.val (.int p0), .val (.int cc), .val (.int (1 : Int32)), .unset] [(.int (127 : Int32))]))
        obtain ⟨_, _, ⟨T15, L15, k15, n15⟩, -, X15, ⟨Lc15, hQ15, l15, y15, z15⟩, st15⟩ := Jvm.LawKit.callS X14 hx (y := (⟨"com/example/vedette/vedette/record/DataZone", "isIndicator", "(C)Z"⟩ : MethodName)) hown (mvT hZ (hw _ (List.mem_of_getElem? (i := 1) rfl))) (mvT hZ (hw _ (List.mem_of_getElem? (i := 2) rfl))) (mvT hZ (hw _ (List.mem_of_getElem? (i := 3) rfl))) (mvT hZ (hw _ (List.mem_of_getElem? (i := 4) rfl))) (by decide) (backOf (W := 0) (rm1 l Z a0 hw [] (127 : Int32)  h0 n0 (Nat.le_trans Z0 K0.1) ) hZ (hw _ (List.mem_of_getElem? (i := 4) rfl)) (hw _ (List.mem_of_getElem? (i := 3) rfl)) (by decide) (by decide)) (g := (mkF m 63 #[.val (.int p0), .val (.int cc), .val (.int (1 : Int32)), .unset] [(.int (127 : Int32))])) rfl (by rw [hml]; rfl) (argsL := [(.int (127 : Int32))]) (rest := []) (lenOf pd_0 rfl) rfl (by show 2 * 0 + _ ≤ _; exact Nat.le_of_eq rfl) (hb hby at_63) (fun _ _ => ⟨rfl, eq14, (by decide : 0 + 0 ≤ _), (by decide : 0 + 0 ≤ _)⟩)
        dsimp only [Pt.U, Pt.locs, Pt.cells, Pt.slots] at X15 l15 y15 z15 st15 hQ15
        subst l15 y15 z15
        obtain ⟨rfl, Nq15, eq15⟩ := hQ15
        have N15 := Fr.app N14 Nq15
        refine Runs.by (fun t hr => st15 t hr) ?_
        rw [show own_ind (127 : Int32) = (0 : Int32) from by decide]
        show Runs p e below _ (T15.setTop (mkF m 66 #[.val (.int p0), .val (.int cc), .val (.int (1 : Int32)), .unset] [(.int (0 : Int32))]))
        have hc66 : (0 : Int32) = (0 : Int32) := (by decide)
        refine Runs.by (fun _ hr => XS.ifNo X15.here hx rfl (hb hby at_66) rfl ((if0 _ _).trans (teq hc66).2) hr) ?_
        show Runs p e below _ (T15.setTop (mkF m 69 #[.val (.int p0), .val (.int cc), .val (.int (1 : Int32)), .unset] []))
        refine Runs.by (fun _ hr => XS.iconst X15.here hx rfl (hb hby at_69) hr) ?_
        show Runs p e below _ (T15.setTop (mkF m 70 #[.val (.int p0), .val (.int cc), .val (.int (1 : Int32)), .unset] [(.int (1 : Int32))]))
        refine Runs.by (fun _ hr => XS.goto X15.here hx rfl (pc0 := 70) (pc' := 74) rfl (hb hby at_70) (by decide) (by decide) hr) ?_
        show Runs p e below _ (T15.setTop (mkF m 74 #[.val (.int p0), .val (.int cc), .val (.int (1 : Int32)), .unset] [(.int (1 : Int32))]))
        refine Runs.by (fun _ hr => XS.istoreN X15.here hx rfl (hb hby at_74) rfl (l' := #[.val (.int p0), .val (.int cc), .val (.int (1 : Int32)), .val (.int (1 : Int32))]) rfl hr) ?_
        show Runs p e below _ (T15.setTop (mkF m 75 #[.val (.int p0), .val (.int cc), .val (.int (1 : Int32)), .val (.int (1 : Int32))] []))
        refine Runs.by (fun _ hr => XS.iloadN X15.here hx rfl (hb hby at_75) rfl  hr) ?_
        show Runs p e below _ (T15.setTop (mkF m 76 #[.val (.int p0), .val (.int cc), .val (.int (1 : Int32)), .val (.int (1 : Int32))] [(.int (1 : Int32))]))
        have hc76 : ¬ ((1 : Int32) = (0 : Int32)) := (by decide)
        refine Runs.by (fun _ hr => XS.ifNo X15.here hx rfl (hb hby at_76) rfl ((if0 _ _).trans (feq hc76).1) hr) ?_
        show Runs p e below _ (T15.setTop (mkF m 79 #[.val (.int p0), .val (.int cc), .val (.int (1 : Int32)), .val (.int (1 : Int32))] []))
        refine Runs.by (fun _ hr => XS.iloadN X15.here hx rfl (hb hby at_79) rfl  hr) ?_
        show Runs p e below _ (T15.setTop (mkF m 80 #[.val (.int p0), .val (.int cc), .val (.int (1 : Int32)), .val (.int (1 : Int32))] [(.int (1 : Int32))]))
        have hc80 : ¬ ((1 : Int32) = (0 : Int32)) := (by decide)
        refine Runs.by (fun _ hr => XS.ifNo X15.here hx rfl (hb hby at_80) rfl ((if0 _ _).trans (feq hc80).1) hr) ?_
        show Runs p e below _ (T15.setTop (mkF m 83 #[.val (.int p0), .val (.int cc), .val (.int (1 : Int32)), .val (.int (1 : Int32))] []))
        refine Runs.by (fun _ hr => XS.iconst X15.here hx rfl (hb hby at_83) hr) ?_
        show Runs p e below _ (T15.setTop (mkF m 84 #[.val (.int p0), .val (.int cc), .val (.int (1 : Int32)), .val (.int (1 : Int32))] [(.int (1 : Int32))]))
        refine Runs.by (fun _ hr => XS.goto X15.here hx rfl (pc0 := 84) (pc' := 88) rfl (hb hby at_84) (by decide) (by decide) hr) ?_
        show Runs p e below _ (T15.setTop (mkF m 88 #[.val (.int p0), .val (.int cc), .val (.int (1 : Int32)), .val (.int (1 : Int32))] [(.int (1 : Int32))]))
        refine Runs.ret X15 hx hrt hlk (Or.inl ⟨rfl, by simp, _, rfl⟩) (by rfl) (hb hby at_88) (by decide) (by decide) ?_
        rw [eq15]
        exact ⟨rfl, N15⟩
set_option maxRecDepth 65536 in
set_option maxHeartbeats 40000000 in
theorem comes_1 {Post : Tables → Env → Array Value → State → Outcome → State → Prop} (hpost : ∀ tb e args s v u, (limb_1_1.after args s (.returned v) u = true ∧ limb_1_2.after args s (.returned v) u = true ∧ True) → FrameEnd s (.returned v) u (Jvm.fieldLocs frame_1_writes args s ++ Jvm.arrayLocs frame_1_arrays args s ++ Jvm.staticLocs frame_1_statics s) 0 0 → Post tb e args s (.returned v) u) :
    ArmFor flags0 classFile x code maxLocals ret World_1 tables_1 room_1 Calls_1 rest_1 Pre_1 Post := by
  intro l hfl _ _ p e ha hc hk s m args below hf hA hF happ hP
  obtain ⟨hcalls, hrest, hpre⟩ := hP
  obtain ⟨-, -, -, hnamed, -, -, -, hat⟩ := (Spec.applies_iff hf).mp happ
  obtain ⟨hg, hn⟩ := and_e (Cond.before_iff.mp (show (Jvm.Cond.and given_1 narrow_1).before args s = true from hpre))
  obtain ⟨g1, g2⟩ := and_e hg
  obtain ⟨w0, rfl⟩ : ∃ w0 : Value, args = #[w0] := by
    have hs : args.size = 1 := by simpa [Cond.value, given_1] using g1
    obtain ⟨L⟩ := args
    match L, hs with
    | [w0], _ => exact ⟨w0, rfl⟩
  have hw := fun d (hd : d ∈ tables_1) => atoms_spec (ws := Jvm.Cond.code x code maxLocals ret :: tables_1) hat d (List.mem_cons_of_mem _ hd)
  have hfit : Fit s := fun {y c} hc i hi => by
    obtain ⟨ha, rfl⟩ := Array.getElem?_eq_some_iff.mp hc
    have q := List.all_eq_true.mp ((Array.all_eq_true_iff_forall_mem.mp hF) _ (Array.getElem_mem ha)) i (List.mem_range.mpr hi)
    simpa [Array.getElem?_eq_getElem hi] using q
  obtain ⟨i0, ei0⟩ := is_v g2
  obtain rfl : w0 = (.int i0) := Option.some.inj ei0
  obtain ⟨n, o, h1, h2, h3, _, L, rfl, ⟨rfl, N⟩, hq⟩ := rm0 l s _ hw tables_1 i0 s.heap s.heap.size (Nat.le_refl _)  p e ha hc hk s m _ below hf ((Spec.applies_iff_loose hf).mp happ).1 ⟨rfl, State.Warmed39.refl s, rfl⟩ trivial
  refine ⟨n, _, h1, h2, h3, hpost _ _ _ _ _ _ ⟨Cond.after_iff.mpr rfl, Cond.after_iff.mpr (eq_i res_at (Term.int_eval (1)) rfl), trivial⟩ ⟨hq.1, hq.2.1, (hq.2.2.sift fun y hy => Or.inr (N y hy)).mono (by decide) (by decide)⟩⟩
theorem main_1_1 : Claimed_1_1 := comes_1 fun _ _ _ _ _ _ h hF => ⟨h.1, hF⟩
theorem main_1_2 : Claimed_1_2 := comes_1 fun _ _ _ _ _ _ h hF => ⟨h.2.1, hF⟩
end Jvm.Pilot.@@N@@
namespace Jvm.Pilot.@@N@@
open Jvm Jvm.ClassFile Sem Op Lib Jvm.Free Jvm.Stand Jvm.Pilot.@@N@@.Jvm.D
/-! MADE BY PROGRAM (witnessworld.py) out of the Statement's table words and the real class files: 12 classes; the members and pool entries that the words name. The judged class is class 1, her method 1. -/
namespace start1
open Jvm.ClassFile
def u (s : String) : CpInfo := .utf8 (stringToUtf16 s)
/-- a pool by its gaps: so many unusable entries, then the entry; so many at the end -/
def gap : Nat → List CpInfo → List CpInfo
  | 0, r => r
  | n + 1, r => .unusable :: gap n r
def poolList (es : List (Nat × CpInfo)) (last : Nat) : List CpInfo := es.foldr (fun e r => gap e.1 (e.2 :: r)) (gap last [])
def pool (es : List (Nat × CpInfo)) (last : Nat) : Array CpInfo := ⟨poolList es last⟩
def fileOf (pool : Array CpInfo) (this : Nat) (attrs : Array Attribute := #[]) (ms : Array MethodInfo := #[]) (fl : Nat := 33) (sup : Nat := 0) (ifs : Array Nat := #[]) (fds : Array FieldInfo := #[]) : ClassFile where
  minorVersion := 0
  majorVersion := 65
  constantPool := pool
  accessFlags := fl
  thisClass := this
  superClass := sup
  interfaces := ifs
  fields := fds
  methods := ms
  attributes := attrs
def plain (name : String) (sup : Option ClassId) : Class where
  name := name
  kind := .ordinary
  loader := none
  accessFlags := 33
  super := sup
  interfaces := #[]
  cf := none
  fields := #[]
  methods := #[]
  instanceTypes := #[]
  staticTypes := #[]
  resolved := #[]
  callSites := []
  init := .initialized
  statics := none
  mirror := none

def pool0 : Array CpInfo := pool [(5, u "<init>"), (0, u "()V"), (1, .class_ 10), (1, u "java/lang/Object")] 113

def k0m0 : Method := { name := "<init>", desc := "()V", sig := { parameters := [], returnType := none }, accessFlags := 1, code := none }
/-- java/lang/Object -/
def k0 : Class := { plain "java/lang/Object" none with
  accessFlags := 33
  interfaces := #[]
  cf := some (fileOf pool0 8 #[] #[{ accessFlags := 1, nameIndex := 5, descriptorIndex := 6, attributes := #[] }] 33 0 #[] #[])
  fields := #[]
  methods := #[k0m0]
  instanceTypes := #[]
  staticTypes := #[]
  resolved := Array.replicate 124 none
  statics := none }

def pool1 : Array CpInfo := pool [(2, .class_ 4), (1, u "java/lang/Object"), (0, u "<init>"), (0, u "()V"), (0, .integer 65535), (0, .methodref 9 10), (0, .class_ 11), (0, .nameAndType 12 13), (0, u "com/example/vedette/vedette/record/DataZone"), (0, u "isIndicator"), (0, u "(C)Z"), (0, .methodref 15 16), (0, .class_ 17), (0, .nameAndType 18 13), (0, u "com/example/vedette/vedette/record/Subfield"), (0, u "isCode"), (0, .class_ 20), (0, u "com/example/vedette/vedette/record/DataZoneIsIndicatorPinLaw"), (2, u "law"), (0, u "(I)Z")] 3

def k1m0 : Method := { name := "<init>", desc := "()V", sig := { parameters := [], returnType := none }, accessFlags := 2, code := none }
def k1c1 : Code := { maxStack := 3, maxLocals := 4, code := code, exceptionTable := #[], attributes := #[] }
def k1m1 : Method := { name := "law", desc := "(I)Z", sig := { parameters := [.int], returnType := some .boolean }, accessFlags := 9, code := some k1c1 }
/-- com/example/vedette/vedette/record/DataZoneIsIndicatorPinLaw -/
def k1 : Class := { plain "com/example/vedette/vedette/record/DataZoneIsIndicatorPinLaw" (some 0) with
  accessFlags := 49
  interfaces := #[]
  cf := some (fileOf pool1 19 #[] #[{ accessFlags := 2, nameIndex := 5, descriptorIndex := 6, attributes := #[] }, { accessFlags := 9, nameIndex := 23, descriptorIndex := 24, attributes := #[] }] 49 2 #[] #[])
  fields := #[]
  methods := #[k1m0, k1m1]
  instanceTypes := #[]
  staticTypes := #[]
  resolved := Array.replicate 28 none
  statics := none }

def pool2 : Array CpInfo := pool [(2, .class_ 4), (1, u "java/lang/Object"), (0, u "<init>"), (0, u "()V"), (0, .class_ 8), (0, u "java/lang/Record")] 13

def k2m0 : Method := { name := "<init>", desc := "()V", sig := { parameters := [], returnType := none }, accessFlags := 4, code := none }
/-- java/lang/Record -/
def k2 : Class := { plain "java/lang/Record" (some 0) with
  accessFlags := 1057
  interfaces := #[]
  cf := some (fileOf pool2 7 #[] #[{ accessFlags := 4, nameIndex := 5, descriptorIndex := 6, attributes := #[] }] 1057 2 #[] #[])
  fields := #[]
  methods := #[k2m0]
  instanceTypes := #[]
  staticTypes := #[]
  resolved := Array.replicate 22 none
  statics := none }

def pool3 : Array CpInfo := pool [(11, .class_ 12), (0, u "com/example/vedette/vedette/record/Zone"), (0, .class_ 14), (0, u "java/lang/Object")] 14

/-- com/example/vedette/vedette/record/Zone -/
def k3 : Class := { plain "com/example/vedette/vedette/record/Zone" (some 0) with
  accessFlags := 1537
  interfaces := #[]
  cf := some (fileOf pool3 11 #[] #[] 1537 13 #[] #[])
  fields := #[]
  methods := #[]
  instanceTypes := #[]
  staticTypes := #[]
  resolved := Array.replicate 29 none
  statics := none }

def pool4 : Array CpInfo := pool [(2, .class_ 4), (1, u "java/lang/Record"), (3, .class_ 10), (1, u "com/example/vedette/vedette/record/DataZone"), (4, u "isIndicator"), (0, u "(C)Z"), (16, u "tag"), (0, u "Ljava/lang/String;"), (2, u "indicator1"), (0, u "C"), (2, u "indicator2"), (2, u "subfields"), (0, u "Ljava/util/List;"), (1, .class_ 49), (1, u "com/example/vedette/vedette/record/Zone")] 69

def k4c0 : Code := { maxStack := 2, maxLocals := 1, code := prog_42_method_3_code, exceptionTable := #[], attributes := #[] }
def k4m0 : Method := { name := "isIndicator", desc := "(C)Z", sig := { parameters := [.char], returnType := some .boolean }, accessFlags := 9, code := some k4c0 }
/-- com/example/vedette/vedette/record/DataZone -/
def k4 : Class := { plain "com/example/vedette/vedette/record/DataZone" (some 2) with
  accessFlags := 49
  interfaces := #[3]
  cf := some (fileOf pool4 8 #[] #[{ accessFlags := 9, nameIndex := 15, descriptorIndex := 16, attributes := #[] }] 49 2 #[47] #[{ accessFlags := 18, nameIndex := 33, descriptorIndex := 34, attributes := #[] }, { accessFlags := 18, nameIndex := 37, descriptorIndex := 38, attributes := #[] }, { accessFlags := 18, nameIndex := 41, descriptorIndex := 38, attributes := #[] }, { accessFlags := 18, nameIndex := 44, descriptorIndex := 45, attributes := #[] }])
  fields := #[{ name := "tag", type := (.object "java/lang/String"), accessFlags := 18, slot := 0, constantValue := 0 }, { name := "indicator1", type := .char, accessFlags := 18, slot := 1, constantValue := 0 }, { name := "indicator2", type := .char, accessFlags := 18, slot := 2, constantValue := 0 }, { name := "subfields", type := (.object "java/util/List"), accessFlags := 18, slot := 3, constantValue := 0 }]
  methods := #[k4m0]
  instanceTypes := #[(.object "java/lang/String"), .char, .char, (.object "java/util/List")]
  staticTypes := #[]
  resolved := Array.replicate 119 none
  statics := none }

def pool5 : Array CpInfo := pool [(2, u "data"), (9, .class_ 14), (1, u "com/example/vedette/vedette/record/Subfield"), (3, .class_ 20), (1, u "java/lang/Object"), (3, u "isCode"), (0, u "(C)Z"), (23, u "code"), (0, u "C"), (2, u "utf8"), (0, u "[B"), (2, u "Ljava/lang/String;")] 88

def k5c0 : Code := { maxStack := 2, maxLocals := 1, code := prog_47_method_12_code, exceptionTable := #[], attributes := #[] }
def k5m0 : Method := { name := "isCode", desc := "(C)Z", sig := { parameters := [.char], returnType := some .boolean }, accessFlags := 9, code := some k5c0 }
/-- com/example/vedette/vedette/record/Subfield -/
def k5 : Class := { plain "com/example/vedette/vedette/record/Subfield" (some 0) with
  accessFlags := 49
  interfaces := #[]
  cf := some (fileOf pool5 12 #[] #[{ accessFlags := 9, nameIndex := 24, descriptorIndex := 25, attributes := #[] }] 49 18 #[] #[{ accessFlags := 18, nameIndex := 49, descriptorIndex := 50, attributes := #[] }, { accessFlags := 18, nameIndex := 53, descriptorIndex := 54, attributes := #[] }, { accessFlags := 2, nameIndex := 2, descriptorIndex := 57, attributes := #[] }])
  fields := #[{ name := "code", type := .char, accessFlags := 18, slot := 0, constantValue := 0 }, { name := "utf8", type := (.array .byte), accessFlags := 18, slot := 1, constantValue := 0 }, { name := "data", type := (.object "java/lang/String"), accessFlags := 2, slot := 2, constantValue := 0 }]
  methods := #[k5m0]
  instanceTypes := #[.char, (.array .byte), (.object "java/lang/String")]
  staticTypes := #[]
  resolved := Array.replicate 146 none
  statics := none }

def pool6 : Array CpInfo := pool [(1, u "java/lang/Cloneable"), (0, .class_ 1), (0, u "java/lang/Object"), (0, .class_ 3)] 3

/-- java/lang/Cloneable -/
def k6 : Class := { plain "java/lang/Cloneable" (some 0) with
  accessFlags := 1537
  interfaces := #[]
  cf := some (fileOf pool6 2 #[] #[] 1537 4 #[] #[])
  fields := #[]
  methods := #[]
  instanceTypes := #[]
  staticTypes := #[]
  resolved := Array.replicate 8 none
  statics := none }

def pool7 : Array CpInfo := pool [(1, u "java/io/Serializable"), (0, .class_ 1), (0, u "java/lang/Object"), (0, .class_ 3)] 3

/-- java/io/Serializable -/
def k7 : Class := { plain "java/io/Serializable" (some 0) with
  accessFlags := 1537
  interfaces := #[]
  cf := some (fileOf pool7 2 #[] #[] 1537 4 #[] #[])
  fields := #[]
  methods := #[]
  instanceTypes := #[]
  staticTypes := #[]
  resolved := Array.replicate 8 none
  statics := none }

/-- the primitive byte -/
def k8 : Class := { plain "byte" none with kind := .primitive 'B', accessFlags := 0x411 }
/-- [B -/
def k9 : Class := { plain "[B" (some 0) with kind := .array 8 .byte, interfaces := #[6, 7], accessFlags := 1041 }

/-- the primitive int -/
def k10 : Class := { plain "int" none with kind := .primitive 'I', accessFlags := 0x411 }
/-- [I -/
def k11 : Class := { plain "[I" (some 0) with kind := .array 10 .int, interfaces := #[6, 7], accessFlags := 1041 }

def heap : Heap := #[]
def classes : Array Class := #[k0, k1, k2, k3, k4, k5, k6, k7, k8, k9, k10, k11]
def interned : List (Array UInt16 × Addr) := []
def slotsUsed : Nat := 0
def theMethod : MethodId := ⟨1, 1⟩
def args0 : Array Value := #[.int 5]
def aboutOver (below : List Frame) : State where
  vm := { classes := classes, interned := interned.toArray }
  heap := heap
  slotsUsed := slotsUsed
  threads := #[{ frames := .invoking theMethod args0 :: below }]
def below0 : List Frame := [.native { method := ⟨0, 0⟩, args := #[] }]
def about1 : State := aboutOver below0
def p0 : Program := .bare "" "" ""
def e0 : Env := launch0.env 0 0 0
theorem w_frames : about1.frames = Frame.invoking theMethod args0 :: below0 := rfl
set_option maxRecDepth 65536 in
theorem w_args : argsFit about1.vm theMethod args0 = true := by decide +kernel
set_option maxRecDepth 65536 in
theorem w_heap : heapFits about1 = true := by decide +kernel
set_option maxRecDepth 65536 in
theorem w_runnable : about1.curStatus? = some .runnable := by decide +kernel
set_option maxRecDepth 65536 in
theorem w_alone : about1.alone = true := by decide +kernel
set_option maxRecDepth 65536 in
theorem w_named : about1.methodNamed? x = some theMethod := by decide +kernel
set_option maxRecDepth 65536 in
theorem w_hears : about1.hears theMethod below0 = true := by decide +kernel
set_option maxRecDepth 65536 in
theorem w_ripe : about1.ripe theMethod args0 below0 = true := by decide +kernel
theorem w_running : about1.status = .running := rfl
set_option maxRecDepth 65536 in
theorem w_room : about1.hasRoom e0.platform room_1 = true :=
  launch0.hasRoom_least _ room_1 (by decide +kernel) (by decide +kernel) (by decide +kernel) (by decide +kernel) (by decide +kernel) (by decide +kernel)
theorem allAtoms_all (ts : List Jvm.Cond) (a : Array Jvm.Value) (st : Jvm.State) : (allAtoms ts).before a st = ts.all (fun c => c.before a st) := by
  induction ts with
  | nil => rfl
  | cons c t ih =>
    show (Jvm.Cond.and c (allAtoms t)).before a st = _
    rw [Jvm.Cond.before_and, ih, List.all_cons]
def words1 : List Jvm.Cond := Jvm.Cond.code x code maxLocals ret :: tables_1
/-- a 'code' word, met by the world's own term for the bytes: nothing is compared byte by byte -/
theorem code_word {y : MethodName} {bytes : ByteArray} {mx : Nat} {rt : Option FieldType} {a : Array Value} {s : State} {m : MethodId} {meth : Method} {c : Code} (h1 : s.methodNamed? y = some m) (h2 : s.vm.method? m = some meth) (h3 : meth.code = some c) (h4 : c.code = bytes)
    (h5 : (c.maxLocals == mx && c.exceptionTable.isEmpty && decide (c.maxStack ≤ mostOperands) && decide (meth.sig.returnType = rt) && !meth.locks && decide (parseMethodDescriptor y.desc = some meth.sig)) = true) : (Jvm.Cond.code y bytes mx rt).before a s = true := by
  simp only [Bool.and_eq_true, beq_iff_eq, Bool.not_eq_true', decide_eq_true_eq] at h5
  obtain ⟨⟨⟨⟨⟨g1, g2⟩, g3⟩, g4⟩, g5⟩, g6⟩ := h5
  simp [Cond.before, Cond.holds, Cond.value, h1, h2, h3, h4, g1, g2, g3, g4, g5, g6]
def isCode : Jvm.Cond → Bool
  | .code _ _ _ _ => true
  | _ => false
theorem all_split {L : List Jvm.Cond} {P : Jvm.Cond → Bool} (h1 : L.all (fun c => isCode c || P c) = true) (h2 : ∀ c ∈ L.filter isCode, P c = true) : L.all P = true := by
  refine List.all_eq_true.mpr fun c hc => ?_
  have h := List.all_eq_true.mp h1 c hc
  rcases Bool.eq_false_or_eq_true (isCode c) with hi | hi
  · exact h2 c (List.mem_filter.mpr ⟨hc, hi⟩)
  · simpa [hi] using h
set_option maxRecDepth 65536 in
theorem w_c0 : (Jvm.Cond.code x code maxLocals ret).before args0 about1 = true := code_word (m := ⟨1, 1⟩) (meth := k1m1) (c := k1c1) (by decide +kernel) rfl rfl rfl (by decide +kernel)
set_option maxRecDepth 65536 in
theorem w_c1 : (Jvm.Cond.code ({ cls := "com/example/vedette/vedette/record/DataZone", name := "isIndicator", desc := "(C)Z" } : Jvm.MethodName) prog_42_method_3_code (1 : Nat) (Option.some Jvm.ClassFile.FieldType.boolean)).before args0 about1 = true := code_word (m := ⟨4, 0⟩) (meth := k4m0) (c := k4c0) (by decide +kernel) rfl rfl rfl (by decide +kernel)
set_option maxRecDepth 65536 in
theorem w_c2 : (Jvm.Cond.code ({ cls := "com/example/vedette/vedette/record/Subfield", name := "isCode", desc := "(C)Z" } : Jvm.MethodName) prog_47_method_12_code (1 : Nat) (Option.some Jvm.ClassFile.FieldType.boolean)).before args0 about1 = true := code_word (m := ⟨5, 0⟩) (meth := k5m0) (c := k5c0) (by decide +kernel) rfl rfl rfl (by decide +kernel)
def codes1 : List Jvm.Cond := [Jvm.Cond.code x code maxLocals ret, Jvm.Cond.code ({ cls := "com/example/vedette/vedette/record/DataZone", name := "isIndicator", desc := "(C)Z" } : Jvm.MethodName) prog_42_method_3_code (1 : Nat) (Option.some Jvm.ClassFile.FieldType.boolean), Jvm.Cond.code ({ cls := "com/example/vedette/vedette/record/Subfield", name := "isCode", desc := "(C)Z" } : Jvm.MethodName) prog_47_method_12_code (1 : Nat) (Option.some Jvm.ClassFile.FieldType.boolean)]
set_option maxRecDepth 65536 in
theorem codes_eq : words1.filter isCode = codes1 := rfl
theorem w_codes : ∀ c ∈ words1.filter isCode, c.before args0 about1 = true := by
  rw [codes_eq]
  intro c hc
  simp only [codes1, List.mem_cons, List.not_mem_nil, or_false] at hc
  rcases hc with rfl | rfl | rfl
  · exact w_c0
  · exact w_c1
  · exact w_c2
set_option maxRecDepth 65536 in
theorem w_t1 : words1.all (fun c => isCode c || c.before args0 about1) = true := by decide +kernel
theorem w_tables : (allAtoms (Jvm.Cond.code x code maxLocals ret :: tables_1)).before args0 about1 = true := by
  rw [allAtoms_all]
  show words1.all (fun c => c.before args0 about1) = true
  refine all_split ?_ w_codes
  rw [w_t1]
set_option maxRecDepth 65536 in
theorem w_case : (Jvm.Cond.and given_1 narrow_1).before args0 about1 = true := by decide +kernel
theorem w_applies : (headSpec (Jvm.Cond.code x code maxLocals ret :: tables_1) room_1).applies x e0.platform about1 = true :=
  (Spec.applies_iff w_frames).mpr ⟨w_running, w_runnable, w_alone, w_named, w_hears, w_ripe, w_room, w_tables⟩
theorem atStart : AtStart classFile x code maxLocals ret World_1 tables_1 room_1 Calls_1 rest_1 Pre_1 launch0 p0 e0 about1 theMethod args0 below0 :=
  ⟨lists_1, trivial, launch0.admits_env _ _ _, launch0.least_env, fairChoices_fair.cas, fairChoices_fair.clock, w_frames, w_args, w_heap, w_applies, trivial, trivial, w_case⟩
end start1
theorem witness_1 : WitnessClaimed_1 := ⟨start1.p0, start1.e0, start1.about1, start1.theMethod, start1.args0, start1.below0, start1.atStart⟩
end Jvm.Pilot.@@N@@
