import JvmDerived
import JvmDerived.Pilot.@@N@@Statement
import JvmDerived.Pilot.@@N@@Code
set_option linter.unusedVariables false
set_option linter.unusedSimpArgs false
@@BLOCK:NumsL.lean.txt@@
namespace Jvm.RoadKit
open Sem ClassFile Op Lib Jvm.Stand Jvm.Free Jvm.LawKit
section OwnRuns
variable {p : Program} {l : Launch} {e : Env} {R : Room} {s : State} {m : MethodId} {args : Array Value} {below : List Frame} {meth : Method} {c : Code} {T : State} {locs : List Loc} {cells slots : Nat}
/-- from U the invocation comes to its end, and there Q holds -/
def Runs (p : Program) (e : Env) (below : List Frame) (Q : Outcome → State → Prop) (U : State) : Prop :=
  ∃ s₂ o, Steps p.tables e below U s₂ ∧ s₂.status = .running ∧ Ended s₂ below o ∧ Q o s₂
def QE (s : State) (Q : Option Value → Heap → List Loc → Prop) (C S : Nat) : Outcome → State → Prop :=
  fun o U' => ∃ v L, o = .returned v ∧ Q v U'.heap L ∧ FrameEnd s o U' L C S
theorem Runs.by {Q : Outcome → State → Prop} {U U' : State} (h : ∀ t, Steps p.tables e below U' t → Steps p.tables e below U t) (k : Runs p e below Q U') : Runs p e below Q U := by
  obtain ⟨s2, o, h1, h2⟩ := k
  exact ⟨s2, o, h _ h1, h2⟩
theorem Runs.ret {Q : Option Value → Heap → List Loc → Prop} {C S : Nat} {t : FieldType} {w : Value} {i : Instr} {pc : Nat} {Ls : Array Slot} {rest : List Value}
    (X : Stand p l e R s m args below meth c T locs cells slots) (hx : p.tables.exec = Jvm.exec) (hret : meth.sig.returnType = some t) (hlk : meth.locks = false)
    (hi : (i = .ireturn ∧ (t = .int ∨ t = .boolean ∨ t = .byte ∨ t = .char ∨ t = .short) ∧ ∃ z, w = .int z) ∨ (i = .lreturn ∧ t = .long ∧ ∃ z, w = .long z) ∨ (i = .dreturn ∧ t = .double ∧ ∃ z, w = .double z) ∨ (i = .freturn ∧ t = .float ∧ ∃ z, w = .float z) ∨ (i = .areturn ∧ t.isReference = true ∧ w.isRef = true))
    (hn : narrow t w = w) (hd : decode c.code pc = .ok (i, 1)) (hC : cells ≤ C) (hS : slots ≤ S) (hQ : Q (some w) T.heap locs) : Runs p e below (QE s Q C S) (T.setTop (mkF m pc Ls (w :: rest))) := by
  obtain ⟨fs, hr, hrun, hended, hW, hsame⟩ := X.leave (v := some w) (fun h => by rw [hret] at h; cases h) hlk
  exact ⟨_, _, retOut X hx hret hn hi hd hr, hrun, hended, _, _, rfl, hQ, ⟨_, rfl⟩, hW, hsame.mono hC hS⟩
theorem Runs.retV {Q : Option Value → Heap → List Loc → Prop} {C S : Nat} {pc : Nat} {Ls : Array Slot}
    (X : Stand p l e R s m args below meth c T locs cells slots) (hx : p.tables.exec = Jvm.exec) (hret : meth.sig.returnType = none) (hlk : meth.locks = false)
    (hd : decode c.code pc = .ok (.return_, 1)) (hC : cells ≤ C) (hS : slots ≤ S) (hQ : Q none T.heap locs) : Runs p e below (QE s Q C S) (T.setTop (mkF m pc Ls [])) := by
  obtain ⟨fs, hr, hrun, hended, hW, hsame⟩ := X.leave (v := none) (fun _ => rfl) hlk
  exact ⟨_, _, X.returnOut hx hret hd hr, hrun, hended, _, _, rfl, hQ, ⟨_, rfl⟩, hW, hsame.mono hC hS⟩
theorem own_narrow_b (x : Int32) (h : x = 0 ∨ x = 1) : narrow .boolean (.int x) = .int x := by rcases h with rfl | rfl <;> rfl
end OwnRuns
end Jvm.RoadKit
namespace Jvm.Pilot.@@N@@
open Jvm Jvm.ClassFile Sem Op Lib Jvm.Free Jvm.Stand Jvm.LawKit Jvm.RoadKit Bundle Jvm.Pilot.@@N@@.Jvm.D
def own_pick (b0 b1 b2 b3 b4 b5 b6 : Addr) (k : Int32) : Addr := if k = 0 then b0 else if k = 1 then b1 else if k = 2 then b2 else if k = 3 then b3 else if k = 4 then b4 else if k = 5 then b5 else b6
def own_comp (b5 b6 a : Addr) : Value := if a = b5 then .ref b6 else if a = b6 then .ref b5 else .null
def own_exp (b5 b6 : Addr) (k : Int32) : Value := if k = 5 then .ref b6 else if k = 6 then .ref b5 else .null
theorem own_mod7 (x : Int32) : (x &&& 2147483647) % 7 = 0 ∨ (x &&& 2147483647) % 7 = 1 ∨ (x &&& 2147483647) % 7 = 2 ∨ (x &&& 2147483647) % 7 = 3 ∨ (x &&& 2147483647) % 7 = 4 ∨ (x &&& 2147483647) % 7 = 5 ∨ (x &&& 2147483647) % 7 = 6 := by
  have e1 : (x &&& 2147483647).toInt = x.toInt % 2 ^ 31 := Jvm.Kit.i32_mask x 2147483647 (k := 31) (by decide) (by decide)
  generalize x &&& 2147483647 = y at *
  have e2 : (y % 7).toInt = y.toInt % 7 := by
    rw [Int32.toInt_mod]
    have : (7 : Int32).toInt = 7 := by decide
    rw [this, Int.tmod_eq_emod_of_nonneg (by omega)]
  have e3 : (y % 7).toInt = 0 ∨ (y % 7).toInt = 1 ∨ (y % 7).toInt = 2 ∨ (y % 7).toInt = 3 ∨ (y % 7).toInt = 4 ∨ (y % 7).toInt = 5 ∨ (y % 7).toInt = 6 := by omega
  rcases e3 with h | h | h | h | h | h | h
  · exact Or.inl (Int32.toInt_inj.mp h)
  · exact Or.inr (Or.inl (Int32.toInt_inj.mp h))
  · exact Or.inr (Or.inr (Or.inl (Int32.toInt_inj.mp h)))
  · exact Or.inr (Or.inr (Or.inr (Or.inl (Int32.toInt_inj.mp h))))
  · exact Or.inr (Or.inr (Or.inr (Or.inr (Or.inl (Int32.toInt_inj.mp h)))))
  · exact Or.inr (Or.inr (Or.inr (Or.inr (Or.inr (Or.inl (Int32.toInt_inj.mp h))))))
  · exact Or.inr (Or.inr (Or.inr (Or.inr (Or.inr (Or.inr (Int32.toInt_inj.mp h))))))
theorem d1_0 : decode method_2_code 0 = .ok (.iload_n 0, 1) := by decide +kernel
theorem d1_1 : decode method_2_code 1 = .ok (.ifCond .ne 7, 3) := by decide +kernel
theorem d1_4 : decode method_2_code 4 = .ok (.getstatic 7, 3) := by decide +kernel
theorem d1_7 : decode method_2_code 7 = .ok (.areturn, 1) := by decide +kernel
theorem d1_8 : decode method_2_code 8 = .ok (.iload_n 0, 1) := by decide +kernel
theorem d1_9 : decode method_2_code 9 = .ok (.iconst 1, 1) := by decide +kernel
theorem d1_10 : decode method_2_code 10 = .ok (.if_icmp .ne 7, 3) := by decide +kernel
theorem d1_13 : decode method_2_code 13 = .ok (.getstatic 13, 3) := by decide +kernel
theorem d1_16 : decode method_2_code 16 = .ok (.areturn, 1) := by decide +kernel
theorem d1_17 : decode method_2_code 17 = .ok (.iload_n 0, 1) := by decide +kernel
theorem d1_18 : decode method_2_code 18 = .ok (.iconst 2, 1) := by decide +kernel
theorem d1_19 : decode method_2_code 19 = .ok (.if_icmp .ne 7, 3) := by decide +kernel
theorem d1_22 : decode method_2_code 22 = .ok (.getstatic 16, 3) := by decide +kernel
theorem d1_25 : decode method_2_code 25 = .ok (.areturn, 1) := by decide +kernel
theorem d1_26 : decode method_2_code 26 = .ok (.iload_n 0, 1) := by decide +kernel
theorem d1_27 : decode method_2_code 27 = .ok (.iconst 3, 1) := by decide +kernel
theorem d1_28 : decode method_2_code 28 = .ok (.if_icmp .ne 7, 3) := by decide +kernel
theorem d1_31 : decode method_2_code 31 = .ok (.getstatic 19, 3) := by decide +kernel
theorem d1_34 : decode method_2_code 34 = .ok (.areturn, 1) := by decide +kernel
theorem d1_35 : decode method_2_code 35 = .ok (.iload_n 0, 1) := by decide +kernel
theorem d1_36 : decode method_2_code 36 = .ok (.iconst 4, 1) := by decide +kernel
theorem d1_37 : decode method_2_code 37 = .ok (.if_icmp .ne 7, 3) := by decide +kernel
theorem d1_40 : decode method_2_code 40 = .ok (.getstatic 22, 3) := by decide +kernel
theorem d1_43 : decode method_2_code 43 = .ok (.areturn, 1) := by decide +kernel
theorem d1_44 : decode method_2_code 44 = .ok (.iload_n 0, 1) := by decide +kernel
theorem d1_45 : decode method_2_code 45 = .ok (.iconst 5, 1) := by decide +kernel
theorem d1_46 : decode method_2_code 46 = .ok (.if_icmp .ne 7, 3) := by decide +kernel
theorem d1_49 : decode method_2_code 49 = .ok (.getstatic 25, 3) := by decide +kernel
theorem d1_52 : decode method_2_code 52 = .ok (.areturn, 1) := by decide +kernel
theorem d1_53 : decode method_2_code 53 = .ok (.getstatic 28, 3) := by decide +kernel
theorem d1_56 : decode method_2_code 56 = .ok (.areturn, 1) := by decide +kernel
theorem ef_1_0 (m : MethodId) (p0 : Int32) : entryFrame m #[(.int p0)] 1 = mkF m 0 #[.val (.int p0)] [] := by first | (simp [entryFrame, mkF, argsToLocals, Value.category]; done) | rfl
theorem pn_com_example_tollgate_tollgate_policy_StaticTableGetCompanionPinLaw : plainName "com/example/tollgate/tollgate/policy/StaticTableGetCompanionPinLaw" = true := by first | (simp [plainName, overriddenIn]; done) | decide +kernel
def Q_rm1 (Z : State) (p0 : Int32) (b0 b1 b2 b3 b4 b5 b6 : Addr) (h0 : Heap) (n0 : Nat) (v : Option Value) (h : Heap) (L : List Loc) : Prop := v = some (.ref (own_pick b0 b1 b2 b3 b4 b5 b6 p0)) ∧ Fr n0 L ∧ h = h0
set_option maxRecDepth 65536 in
set_option maxHeartbeats 40000000 in
theorem rm1 (l : Launch) (Z : State) (a0 : Array Value) (hw : ∀ d ∈ tables_1, d.before a0 Z = true) (ws : List Jvm.Cond) (p0 : Int32) (b0 b1 b2 b3 b4 b5 b6 : Addr) (h0 : Heap) (n0 : Nat) (Z0 : n0 ≤ h0.size) (S0 : Sta Z h0 "com/example/tollgate/tollgate/policy/StaticTable" "PLAYS" "Lcom/example/tollgate/tollgate/policy/StaticTable;" (.ref b0)) (S1 : Sta Z h0 "com/example/tollgate/tollgate/policy/StaticTable" "PERMISSIONS" "Lcom/example/tollgate/tollgate/policy/StaticTable;" (.ref b1)) (S2 : Sta Z h0 "com/example/tollgate/tollgate/policy/StaticTable" "PROHIBITIONS" "Lcom/example/tollgate/tollgate/policy/StaticTable;" (.ref b2)) (S3 : Sta Z h0 "com/example/tollgate/tollgate/policy/StaticTable" "ROLE_PARENTS" "Lcom/example/tollgate/tollgate/policy/StaticTable;" (.ref b3)) (S4 : Sta Z h0 "com/example/tollgate/tollgate/policy/StaticTable" "ORG_PARENTS" "Lcom/example/tollgate/tollgate/policy/StaticTable;" (.ref b4)) (S5 : Sta Z h0 "com/example/tollgate/tollgate/policy/StaticTable" "SSD_CONSTRAINTS" "Lcom/example/tollgate/tollgate/policy/StaticTable;" (.ref b5)) (S6 : Sta Z h0 "com/example/tollgate/tollgate/policy/StaticTable" "SSD_MEMBERS" "Lcom/example/tollgate/tollgate/policy/StaticTable;" (.ref b6)) :
    MetFree l (⟨"com/example/tollgate/tollgate/policy/StaticTableGetCompanionPinLaw", "pick", "(I)Lcom/example/tollgate/tollgate/policy/StaticTable;"⟩ : MethodName) (head1 (Jvm.Cond.code (⟨"com/example/tollgate/tollgate/policy/StaticTableGetCompanionPinLaw", "pick", "(I)Lcom/example/tollgate/tollgate/policy/StaticTable;"⟩ : MethodName) method_2_code 1 (some (.object "com/example/tollgate/tollgate/policy/StaticTable")) :: ws) ({ frames := 0, cells := 0, slots := 0, locals := 0 } : Room)) (fun a U => a = #[(.int p0)] ∧ Z.Warmed39 U.vm ∧ U.heap = h0) (fun _ _ _ _ _ => True) (fun _ U o U' => ∃ v L, o = .returned v ∧ Q_rm1 Z p0 b0 b1 b2 b3 b4 b5 b6 h0 n0 v U'.heap L ∧ FrameEnd U o U' L ({ frames := 0, cells := 0, slots := 0, locals := 0 } : Room).cells ({ frames := 0, cells := 0, slots := 0, locals := 0 } : Room).slots) := by
  refine MetFree.of_bodySF (plainFor_of_name pn_com_example_tollgate_tollgate_policy_StaticTableGetCompanionPinLaw) hisR ?_
  intro p e s m args below meth c s₁ Bd hml0 hP hK
  obtain ⟨rfl, hZ, hh⟩ := hP
  have hx := Bd.exec
  have hby := Bd.bytes
  have hlk := BodyLoose.notSynchronized Bd
  have hrt := Bd.returns
  have hml : c.maxLocals = 1 := hml0
  have hown : s.vm.findClass "com/example/tollgate/tollgate/policy/StaticTableGetCompanionPinLaw" = some m.cls := findClass_of_methodNamed Bd.named
  have hnm := (name_of_methodNamed Bd.named Bd.method).1
  have X0 : Stand p l e ({ frames := 0, cells := 0, slots := 0, locals := 0 } : Room) s m #[(.int p0)] below meth c s₁ [] 0 0 := Stand.of_body Bd
  have e0 : s₁.heap = h0 := by rw [← hh, Bd.state]; rfl
  have N0 := Fr.nil n0
  have K0 : Keep h0 h0 [] := Keep.refl h0 _
  show Runs p e below (QE s (Q_rm1 Z p0 b0 b1 b2 b3 b4 b5 b6 h0 n0) ({ frames := 0, cells := 0, slots := 0, locals := 0 } : Room).cells ({ frames := 0, cells := 0, slots := 0, locals := 0 } : Room).slots) (s₁.setTop (entryFrame m #[(.int p0)] 1))
  rw [ef_1_0 m p0]
  show Runs p e below _ (s₁.setTop (mkF m 0 #[.val (.int p0)] []))
  refine Runs.by (fun _ hr => XS.iloadN X0.here hx rfl (hb hby d1_0) rfl  hr) ?_
  show Runs p e below _ (s₁.setTop (mkF m 1 #[.val (.int p0)] [(.int p0)]))
  by_cases hc1 : p0 = (0 : Int32)
  · -- pc 1: p0 = (0 : Int32)
    refine Runs.by (fun _ hr => XS.ifNo X0.here hx rfl (hb hby d1_1) rfl ((if0 _ _).trans (teq hc1).2) hr) ?_
    show Runs p e below _ (s₁.setTop (mkF m 4 #[.val (.int p0)] []))
    obtain ⟨T1, X1, e1, st1⟩ := getS2 X0 hx hZ hown (host := "") (Or.inl (hw _ (List.mem_of_getElem? (i := 5) rfl))) Via.refl e0 S0 (g := (mkF m 4 #[.val (.int p0)] [])) rfl (hb hby d1_4)
    refine Runs.by st1 ?_
    show Runs p e below _ (T1.setTop (mkF m 7 #[.val (.int p0)] [(.ref b0)]))
    refine Runs.ret X1 hx hrt hlk (Or.inr (Or.inr (Or.inr (Or.inr ⟨rfl, rfl, rfl⟩)))) rfl (hb hby d1_7) (by decide) (by decide) ?_
    rw [e1]
    exact ⟨by simp [own_pick, *], N0, rfl⟩
  · -- pc 1: not p0 = (0 : Int32)
    refine Runs.by (fun _ hr => XS.ifYes X0.here hx rfl (pc0 := 1) (pc' := 8) rfl (hb hby d1_1) rfl ((if0 _ _).trans (feq hc1).2) (by decide) (by decide) hr) ?_
    show Runs p e below _ (s₁.setTop (mkF m 8 #[.val (.int p0)] []))
    refine Runs.by (fun _ hr => XS.iloadN X0.here hx rfl (hb hby d1_8) rfl  hr) ?_
    show Runs p e below _ (s₁.setTop (mkF m 9 #[.val (.int p0)] [(.int p0)]))
    refine Runs.by (fun _ hr => XS.iconst X0.here hx rfl (hb hby d1_9) hr) ?_
    show Runs p e below _ (s₁.setTop (mkF m 10 #[.val (.int p0)] [(.int (1 : Int32)), (.int p0)]))
    by_cases hc10 : p0 = (1 : Int32)
    · -- pc 10: p0 = (1 : Int32)
      refine Runs.by (fun _ hr => XS.icmpNo X0.here hx rfl (hb hby d1_10) rfl (teq hc10).2 hr) ?_
      show Runs p e below _ (s₁.setTop (mkF m 13 #[.val (.int p0)] []))
      obtain ⟨T2, X2, e2, st2⟩ := getS2 X0 hx hZ hown (host := "") (Or.inl (hw _ (List.mem_of_getElem? (i := 28) rfl))) Via.refl e0 S1 (g := (mkF m 13 #[.val (.int p0)] [])) rfl (hb hby d1_13)
      refine Runs.by st2 ?_
      show Runs p e below _ (T2.setTop (mkF m 16 #[.val (.int p0)] [(.ref b1)]))
      refine Runs.ret X2 hx hrt hlk (Or.inr (Or.inr (Or.inr (Or.inr ⟨rfl, rfl, rfl⟩)))) rfl (hb hby d1_16) (by decide) (by decide) ?_
      rw [e2]
      exact ⟨by simp [own_pick, *], N0, rfl⟩
    · -- pc 10: not p0 = (1 : Int32)
      refine Runs.by (fun _ hr => XS.icmpYes X0.here hx rfl (pc0 := 10) (pc' := 17) rfl (hb hby d1_10) rfl (feq hc10).2 (by decide) (by decide) hr) ?_
      show Runs p e below _ (s₁.setTop (mkF m 17 #[.val (.int p0)] []))
      refine Runs.by (fun _ hr => XS.iloadN X0.here hx rfl (hb hby d1_17) rfl  hr) ?_
      show Runs p e below _ (s₁.setTop (mkF m 18 #[.val (.int p0)] [(.int p0)]))
      refine Runs.by (fun _ hr => XS.iconst X0.here hx rfl (hb hby d1_18) hr) ?_
      show Runs p e below _ (s₁.setTop (mkF m 19 #[.val (.int p0)] [(.int (2 : Int32)), (.int p0)]))
      by_cases hc19 : p0 = (2 : Int32)
      · -- pc 19: p0 = (2 : Int32)
        refine Runs.by (fun _ hr => XS.icmpNo X0.here hx rfl (hb hby d1_19) rfl (teq hc19).2 hr) ?_
        show Runs p e below _ (s₁.setTop (mkF m 22 #[.val (.int p0)] []))
        obtain ⟨T3, X3, e3, st3⟩ := getS2 X0 hx hZ hown (host := "") (Or.inl (hw _ (List.mem_of_getElem? (i := 26) rfl))) Via.refl e0 S2 (g := (mkF m 22 #[.val (.int p0)] [])) rfl (hb hby d1_22)
        refine Runs.by st3 ?_
        show Runs p e below _ (T3.setTop (mkF m 25 #[.val (.int p0)] [(.ref b2)]))
        refine Runs.ret X3 hx hrt hlk (Or.inr (Or.inr (Or.inr (Or.inr ⟨rfl, rfl, rfl⟩)))) rfl (hb hby d1_25) (by decide) (by decide) ?_
        rw [e3]
        exact ⟨by simp [own_pick, *], N0, rfl⟩
      · -- pc 19: not p0 = (2 : Int32)
        refine Runs.by (fun _ hr => XS.icmpYes X0.here hx rfl (pc0 := 19) (pc' := 26) rfl (hb hby d1_19) rfl (feq hc19).2 (by decide) (by decide) hr) ?_
        show Runs p e below _ (s₁.setTop (mkF m 26 #[.val (.int p0)] []))
        refine Runs.by (fun _ hr => XS.iloadN X0.here hx rfl (hb hby d1_26) rfl  hr) ?_
        show Runs p e below _ (s₁.setTop (mkF m 27 #[.val (.int p0)] [(.int p0)]))
        refine Runs.by (fun _ hr => XS.iconst X0.here hx rfl (hb hby d1_27) hr) ?_
        show Runs p e below _ (s₁.setTop (mkF m 28 #[.val (.int p0)] [(.int (3 : Int32)), (.int p0)]))
        by_cases hc28 : p0 = (3 : Int32)
        · -- pc 28: p0 = (3 : Int32)
          refine Runs.by (fun _ hr => XS.icmpNo X0.here hx rfl (hb hby d1_28) rfl (teq hc28).2 hr) ?_
          show Runs p e below _ (s₁.setTop (mkF m 31 #[.val (.int p0)] []))
          obtain ⟨T4, X4, e4, st4⟩ := getS2 X0 hx hZ hown (host := "") (Or.inl (hw _ (List.mem_of_getElem? (i := 20) rfl))) Via.refl e0 S3 (g := (mkF m 31 #[.val (.int p0)] [])) rfl (hb hby d1_31)
          refine Runs.by st4 ?_
          show Runs p e below _ (T4.setTop (mkF m 34 #[.val (.int p0)] [(.ref b3)]))
          refine Runs.ret X4 hx hrt hlk (Or.inr (Or.inr (Or.inr (Or.inr ⟨rfl, rfl, rfl⟩)))) rfl (hb hby d1_34) (by decide) (by decide) ?_
          rw [e4]
          exact ⟨by simp [own_pick, *], N0, rfl⟩
        · -- pc 28: not p0 = (3 : Int32)
          refine Runs.by (fun _ hr => XS.icmpYes X0.here hx rfl (pc0 := 28) (pc' := 35) rfl (hb hby d1_28) rfl (feq hc28).2 (by decide) (by decide) hr) ?_
          show Runs p e below _ (s₁.setTop (mkF m 35 #[.val (.int p0)] []))
          refine Runs.by (fun _ hr => XS.iloadN X0.here hx rfl (hb hby d1_35) rfl  hr) ?_
          show Runs p e below _ (s₁.setTop (mkF m 36 #[.val (.int p0)] [(.int p0)]))
          refine Runs.by (fun _ hr => XS.iconst X0.here hx rfl (hb hby d1_36) hr) ?_
          show Runs p e below _ (s₁.setTop (mkF m 37 #[.val (.int p0)] [(.int (4 : Int32)), (.int p0)]))
          by_cases hc37 : p0 = (4 : Int32)
          · -- pc 37: p0 = (4 : Int32)
            refine Runs.by (fun _ hr => XS.icmpNo X0.here hx rfl (hb hby d1_37) rfl (teq hc37).2 hr) ?_
            show Runs p e below _ (s₁.setTop (mkF m 40 #[.val (.int p0)] []))
            obtain ⟨T5, X5, e5, st5⟩ := getS2 X0 hx hZ hown (host := "") (Or.inl (hw _ (List.mem_of_getElem? (i := 24) rfl))) Via.refl e0 S4 (g := (mkF m 40 #[.val (.int p0)] [])) rfl (hb hby d1_40)
            refine Runs.by st5 ?_
            show Runs p e below _ (T5.setTop (mkF m 43 #[.val (.int p0)] [(.ref b4)]))
            refine Runs.ret X5 hx hrt hlk (Or.inr (Or.inr (Or.inr (Or.inr ⟨rfl, rfl, rfl⟩)))) rfl (hb hby d1_43) (by decide) (by decide) ?_
            rw [e5]
            exact ⟨by simp [own_pick, *], N0, rfl⟩
          · -- pc 37: not p0 = (4 : Int32)
            refine Runs.by (fun _ hr => XS.icmpYes X0.here hx rfl (pc0 := 37) (pc' := 44) rfl (hb hby d1_37) rfl (feq hc37).2 (by decide) (by decide) hr) ?_
            show Runs p e below _ (s₁.setTop (mkF m 44 #[.val (.int p0)] []))
            refine Runs.by (fun _ hr => XS.iloadN X0.here hx rfl (hb hby d1_44) rfl  hr) ?_
            show Runs p e below _ (s₁.setTop (mkF m 45 #[.val (.int p0)] [(.int p0)]))
            refine Runs.by (fun _ hr => XS.iconst X0.here hx rfl (hb hby d1_45) hr) ?_
            show Runs p e below _ (s₁.setTop (mkF m 46 #[.val (.int p0)] [(.int (5 : Int32)), (.int p0)]))
            by_cases hc46 : p0 = (5 : Int32)
            · -- pc 46: p0 = (5 : Int32)
              refine Runs.by (fun _ hr => XS.icmpNo X0.here hx rfl (hb hby d1_46) rfl (teq hc46).2 hr) ?_
              show Runs p e below _ (s₁.setTop (mkF m 49 #[.val (.int p0)] []))
              obtain ⟨T6, X6, e6, st6⟩ := getS2 X0 hx hZ hown (host := "") (Or.inl (hw _ (List.mem_of_getElem? (i := 22) rfl))) Via.refl e0 S5 (g := (mkF m 49 #[.val (.int p0)] [])) rfl (hb hby d1_49)
              refine Runs.by st6 ?_
              show Runs p e below _ (T6.setTop (mkF m 52 #[.val (.int p0)] [(.ref b5)]))
              refine Runs.ret X6 hx hrt hlk (Or.inr (Or.inr (Or.inr (Or.inr ⟨rfl, rfl, rfl⟩)))) rfl (hb hby d1_52) (by decide) (by decide) ?_
              rw [e6]
              exact ⟨by simp [own_pick, *], N0, rfl⟩
            · -- pc 46: not p0 = (5 : Int32)
              refine Runs.by (fun _ hr => XS.icmpYes X0.here hx rfl (pc0 := 46) (pc' := 53) rfl (hb hby d1_46) rfl (feq hc46).2 (by decide) (by decide) hr) ?_
              show Runs p e below _ (s₁.setTop (mkF m 53 #[.val (.int p0)] []))
              obtain ⟨T7, X7, e7, st7⟩ := getS2 X0 hx hZ hown (host := "") (Or.inl (hw _ (List.mem_of_getElem? (i := 23) rfl))) Via.refl e0 S6 (g := (mkF m 53 #[.val (.int p0)] [])) rfl (hb hby d1_53)
              refine Runs.by st7 ?_
              show Runs p e below _ (T7.setTop (mkF m 56 #[.val (.int p0)] [(.ref b6)]))
              refine Runs.ret X7 hx hrt hlk (Or.inr (Or.inr (Or.inr (Or.inr ⟨rfl, rfl, rfl⟩)))) rfl (hb hby d1_56) (by decide) (by decide) ?_
              rw [e7]
              exact ⟨by simp [own_pick, *], N0, rfl⟩
theorem d2_0 : decode prog_88_method_9_code 0 = .ok (.aconst_null, 1) := by decide +kernel
theorem d2_1 : decode prog_88_method_9_code 1 = .ok (.astore_n 1, 1) := by decide +kernel
theorem d2_2 : decode prog_88_method_9_code 2 = .ok (.aload_n 0, 1) := by decide +kernel
theorem d2_3 : decode prog_88_method_9_code 3 = .ok (.getstatic 19, 3) := by decide +kernel
theorem d2_6 : decode prog_88_method_9_code 6 = .ok (.if_acmp .ne 10, 3) := by decide +kernel
theorem d2_9 : decode prog_88_method_9_code 9 = .ok (.getstatic 22, 3) := by decide +kernel
theorem d2_12 : decode prog_88_method_9_code 12 = .ok (.astore_n 1, 1) := by decide +kernel
theorem d2_13 : decode prog_88_method_9_code 13 = .ok (.goto 14, 3) := by decide +kernel
theorem d2_16 : decode prog_88_method_9_code 16 = .ok (.aload_n 0, 1) := by decide +kernel
theorem d2_17 : decode prog_88_method_9_code 17 = .ok (.getstatic 22, 3) := by decide +kernel
theorem d2_20 : decode prog_88_method_9_code 20 = .ok (.if_acmp .ne 7, 3) := by decide +kernel
theorem d2_23 : decode prog_88_method_9_code 23 = .ok (.getstatic 19, 3) := by decide +kernel
theorem d2_26 : decode prog_88_method_9_code 26 = .ok (.astore_n 1, 1) := by decide +kernel
theorem d2_27 : decode prog_88_method_9_code 27 = .ok (.aload_n 1, 1) := by decide +kernel
theorem d2_28 : decode prog_88_method_9_code 28 = .ok (.areturn, 1) := by decide +kernel
theorem ef_2_1 (m : MethodId) (a0_ : Addr) : entryFrame m #[(.ref a0_)] 2 = mkF m 0 #[.val (.ref a0_), .unset] [] := by first | (simp [entryFrame, mkF, argsToLocals, Value.category]; done) | rfl
theorem pn_com_example_tollgate_tollgate_policy_StaticTable : plainName "com/example/tollgate/tollgate/policy/StaticTable" = true := by first | (simp [plainName, overriddenIn]; done) | decide +kernel
def Q_rm2 (Z : State) (a0_ : Addr) (b5 b6 : Addr) (h0 : Heap) (n0 : Nat) (v : Option Value) (h : Heap) (L : List Loc) : Prop := v = some (own_comp b5 b6 a0_) ∧ Fr n0 L ∧ h = h0
set_option maxRecDepth 65536 in
set_option maxHeartbeats 40000000 in
theorem rm2 (l : Launch) (Z : State) (a0 : Array Value) (hw : ∀ d ∈ tables_1, d.before a0 Z = true) (ws : List Jvm.Cond) (a0_ : Addr) (b5 b6 : Addr) (h0 : Heap) (n0 : Nat) (Z0 : n0 ≤ h0.size) (S5 : Sta Z h0 "com/example/tollgate/tollgate/policy/StaticTable" "SSD_CONSTRAINTS" "Lcom/example/tollgate/tollgate/policy/StaticTable;" (.ref b5)) (S6 : Sta Z h0 "com/example/tollgate/tollgate/policy/StaticTable" "SSD_MEMBERS" "Lcom/example/tollgate/tollgate/policy/StaticTable;" (.ref b6)) :
    MetFree l (⟨"com/example/tollgate/tollgate/policy/StaticTable", "getCompanion", "()Lcom/example/tollgate/tollgate/policy/StaticTable;"⟩ : MethodName) (head1 (Jvm.Cond.code (⟨"com/example/tollgate/tollgate/policy/StaticTable", "getCompanion", "()Lcom/example/tollgate/tollgate/policy/StaticTable;"⟩ : MethodName) prog_88_method_9_code 2 (some (.object "com/example/tollgate/tollgate/policy/StaticTable")) :: ws) ({ frames := 0, cells := 0, slots := 0, locals := 0 } : Room)) (fun a U => a = #[(.ref a0_)] ∧ Z.Warmed39 U.vm ∧ U.heap = h0) (fun _ _ _ _ _ => True) (fun _ U o U' => ∃ v L, o = .returned v ∧ Q_rm2 Z a0_ b5 b6 h0 n0 v U'.heap L ∧ FrameEnd U o U' L ({ frames := 0, cells := 0, slots := 0, locals := 0 } : Room).cells ({ frames := 0, cells := 0, slots := 0, locals := 0 } : Room).slots) := by
  refine MetFree.of_bodySF (plainFor_of_name pn_com_example_tollgate_tollgate_policy_StaticTable) hisR ?_
  intro p e s m args below meth c s₁ Bd hml0 hP hK
  obtain ⟨rfl, hZ, hh⟩ := hP
  have hx := Bd.exec
  have hby := Bd.bytes
  have hlk := BodyLoose.notSynchronized Bd
  have hrt := Bd.returns
  have hml : c.maxLocals = 2 := hml0
  have hown : s.vm.findClass "com/example/tollgate/tollgate/policy/StaticTable" = some m.cls := findClass_of_methodNamed Bd.named
  have hnm := (name_of_methodNamed Bd.named Bd.method).1
  have X0 : Stand p l e ({ frames := 0, cells := 0, slots := 0, locals := 0 } : Room) s m #[(.ref a0_)] below meth c s₁ [] 0 0 := Stand.of_body Bd
  have e0 : s₁.heap = h0 := by rw [← hh, Bd.state]; rfl
  have N0 := Fr.nil n0
  have K0 : Keep h0 h0 [] := Keep.refl h0 _
  show Runs p e below (QE s (Q_rm2 Z a0_ b5 b6 h0 n0) ({ frames := 0, cells := 0, slots := 0, locals := 0 } : Room).cells ({ frames := 0, cells := 0, slots := 0, locals := 0 } : Room).slots) (s₁.setTop (entryFrame m #[(.ref a0_)] 2))
  rw [ef_2_1 m a0_]
  show Runs p e below _ (s₁.setTop (mkF m 0 #[.val (.ref a0_), .unset] []))
  refine Runs.by (fun _ hr => XS.aconstNull X0.here hx rfl (hb hby d2_0) hr) ?_
  show Runs p e below _ (s₁.setTop (mkF m 1 #[.val (.ref a0_), .unset] [.null]))
  refine Runs.by (fun _ hr => XS.astoreN X0.here hx rfl (hb hby d2_1) rfl rfl (l' := #[.val (.ref a0_), .val .null]) rfl hr) ?_
  show Runs p e below _ (s₁.setTop (mkF m 2 #[.val (.ref a0_), .val .null] []))
  refine Runs.by (fun _ hr => XS.aloadN X0.here hx rfl (hb hby d2_2) rfl rfl hr) ?_
  show Runs p e below _ (s₁.setTop (mkF m 3 #[.val (.ref a0_), .val .null] [(.ref a0_)]))
  obtain ⟨T1, X1, e1, st1⟩ := getS2 X0 hx hZ hown (host := "") (Or.inl (hw _ (List.mem_of_getElem? (i := 13) rfl))) Via.refl e0 S5 (g := (mkF m 3 #[.val (.ref a0_), .val .null] [(.ref a0_)])) rfl (hb hby d2_3)
  refine Runs.by st1 ?_
  show Runs p e below _ (T1.setTop (mkF m 6 #[.val (.ref a0_), .val .null] [(.ref b5), (.ref a0_)]))
  by_cases ha6 : a0_ = b5
  · -- pc 6: the same
    refine Runs.by (fun _ hr => Jvm.RoadKit.acmp (g := (mkF m 6 #[.val (.ref a0_), .val .null] [(.ref b5), (.ref a0_)])) X1 hx rfl rfl rfl (pc0 := 6) (pc' := 9) (same := true) rfl (hb hby d2_6) rfl (decide_eq_true (congrArg Value.ref ha6)) (by decide) (by decide) hr) ?_
    show Runs p e below _ (T1.setTop (mkF m 9 #[.val (.ref a0_), .val .null] []))
    obtain ⟨T2, X2, e2, st2⟩ := getS2 X1 hx hZ hown (host := "") (Or.inl (hw _ (List.mem_of_getElem? (i := 15) rfl))) Via.refl e1 S6 (g := (mkF m 9 #[.val (.ref a0_), .val .null] [])) rfl (hb hby d2_9)
    refine Runs.by st2 ?_
    show Runs p e below _ (T2.setTop (mkF m 12 #[.val (.ref a0_), .val .null] [(.ref b6)]))
    refine Runs.by (fun _ hr => XS.astoreN X2.here hx rfl (hb hby d2_12) rfl rfl (l' := #[.val (.ref a0_), .val (.ref b6)]) rfl hr) ?_
    show Runs p e below _ (T2.setTop (mkF m 13 #[.val (.ref a0_), .val (.ref b6)] []))
    refine Runs.by (fun _ hr => XS.goto X2.here hx rfl (pc0 := 13) (pc' := 27) rfl (hb hby d2_13) (by decide) (by decide) hr) ?_
    show Runs p e below _ (T2.setTop (mkF m 27 #[.val (.ref a0_), .val (.ref b6)] []))
    refine Runs.by (fun _ hr => XS.aloadN X2.here hx rfl (hb hby d2_27) rfl rfl hr) ?_
    show Runs p e below _ (T2.setTop (mkF m 28 #[.val (.ref a0_), .val (.ref b6)] [(.ref b6)]))
    refine Runs.ret X2 hx hrt hlk (Or.inr (Or.inr (Or.inr (Or.inr ⟨rfl, rfl, rfl⟩)))) rfl (hb hby d2_28) (by decide) (by decide) ?_
    rw [e2]
    exact ⟨by first | (subst ha6; simp [own_comp]; done) | (subst ha20; simp [own_comp, ha6]; done) | simp [own_comp, *], N0, rfl⟩
  · -- pc 6: not the same
    refine Runs.by (fun _ hr => Jvm.RoadKit.acmp (g := (mkF m 6 #[.val (.ref a0_), .val .null] [(.ref b5), (.ref a0_)])) X1 hx rfl rfl rfl (pc0 := 6) (pc' := 16) (same := false) rfl (hb hby d2_6) rfl (decide_eq_false fun q => ha6 (Value.ref.inj q)) (by decide) (by decide) hr) ?_
    show Runs p e below _ (T1.setTop (mkF m 16 #[.val (.ref a0_), .val .null] []))
    refine Runs.by (fun _ hr => XS.aloadN X1.here hx rfl (hb hby d2_16) rfl rfl hr) ?_
    show Runs p e below _ (T1.setTop (mkF m 17 #[.val (.ref a0_), .val .null] [(.ref a0_)]))
    obtain ⟨T3, X3, e3, st3⟩ := getS2 X1 hx hZ hown (host := "") (Or.inl (hw _ (List.mem_of_getElem? (i := 15) rfl))) Via.refl e1 S6 (g := (mkF m 17 #[.val (.ref a0_), .val .null] [(.ref a0_)])) rfl (hb hby d2_17)
    refine Runs.by st3 ?_
    show Runs p e below _ (T3.setTop (mkF m 20 #[.val (.ref a0_), .val .null] [(.ref b6), (.ref a0_)]))
    by_cases ha20 : a0_ = b6
    · -- pc 20: the same
      refine Runs.by (fun _ hr => Jvm.RoadKit.acmp (g := (mkF m 20 #[.val (.ref a0_), .val .null] [(.ref b6), (.ref a0_)])) X3 hx rfl rfl rfl (pc0 := 20) (pc' := 23) (same := true) rfl (hb hby d2_20) rfl (decide_eq_true (congrArg Value.ref ha20)) (by decide) (by decide) hr) ?_
      show Runs p e below _ (T3.setTop (mkF m 23 #[.val (.ref a0_), .val .null] []))
      obtain ⟨T4, X4, e4, st4⟩ := getS2 X3 hx hZ hown (host := "") (Or.inl (hw _ (List.mem_of_getElem? (i := 13) rfl))) Via.refl e3 S5 (g := (mkF m 23 #[.val (.ref a0_), .val .null] [])) rfl (hb hby d2_23)
      refine Runs.by st4 ?_
      show Runs p e below _ (T4.setTop (mkF m 26 #[.val (.ref a0_), .val .null] [(.ref b5)]))
      refine Runs.by (fun _ hr => XS.astoreN X4.here hx rfl (hb hby d2_26) rfl rfl (l' := #[.val (.ref a0_), .val (.ref b5)]) rfl hr) ?_
      show Runs p e below _ (T4.setTop (mkF m 27 #[.val (.ref a0_), .val (.ref b5)] []))
      refine Runs.by (fun _ hr => XS.aloadN X4.here hx rfl (hb hby d2_27) rfl rfl hr) ?_
      show Runs p e below _ (T4.setTop (mkF m 28 #[.val (.ref a0_), .val (.ref b5)] [(.ref b5)]))
      refine Runs.ret X4 hx hrt hlk (Or.inr (Or.inr (Or.inr (Or.inr ⟨rfl, rfl, rfl⟩)))) rfl (hb hby d2_28) (by decide) (by decide) ?_
      rw [e4]
      exact ⟨by first | (subst ha6; simp [own_comp]; done) | (subst ha20; simp [own_comp, ha6]; done) | simp [own_comp, *], N0, rfl⟩
    · -- pc 20: not the same
      refine Runs.by (fun _ hr => Jvm.RoadKit.acmp (g := (mkF m 20 #[.val (.ref a0_), .val .null] [(.ref b6), (.ref a0_)])) X3 hx rfl rfl rfl (pc0 := 20) (pc' := 27) (same := false) rfl (hb hby d2_20) rfl (decide_eq_false fun q => ha20 (Value.ref.inj q)) (by decide) (by decide) hr) ?_
      show Runs p e below _ (T3.setTop (mkF m 27 #[.val (.ref a0_), .val .null] []))
      refine Runs.by (fun _ hr => XS.aloadN X3.here hx rfl (hb hby d2_27) rfl rfl hr) ?_
      show Runs p e below _ (T3.setTop (mkF m 28 #[.val (.ref a0_), .val .null] [.null]))
      refine Runs.ret X3 hx hrt hlk (Or.inr (Or.inr (Or.inr (Or.inr ⟨rfl, rfl, rfl⟩)))) rfl (hb hby d2_28) (by decide) (by decide) ?_
      rw [e3]
      exact ⟨by first | (subst ha6; simp [own_comp]; done) | (subst ha20; simp [own_comp, ha6]; done) | simp [own_comp, *], N0, rfl⟩
theorem d3_0 : decode method_3_code 0 = .ok (.iload_n 0, 1) := by decide +kernel
theorem d3_1 : decode method_3_code 1 = .ok (.iconst 5, 1) := by decide +kernel
theorem d3_2 : decode method_3_code 2 = .ok (.if_icmp .ne 7, 3) := by decide +kernel
theorem d3_5 : decode method_3_code 5 = .ok (.getstatic 28, 3) := by decide +kernel
theorem d3_8 : decode method_3_code 8 = .ok (.areturn, 1) := by decide +kernel
theorem d3_9 : decode method_3_code 9 = .ok (.iload_n 0, 1) := by decide +kernel
theorem d3_10 : decode method_3_code 10 = .ok (.bipush 6, 2) := by decide +kernel
theorem d3_12 : decode method_3_code 12 = .ok (.if_icmp .ne 7, 3) := by decide +kernel
theorem d3_15 : decode method_3_code 15 = .ok (.getstatic 25, 3) := by decide +kernel
theorem d3_18 : decode method_3_code 18 = .ok (.areturn, 1) := by decide +kernel
theorem d3_19 : decode method_3_code 19 = .ok (.aconst_null, 1) := by decide +kernel
theorem d3_20 : decode method_3_code 20 = .ok (.areturn, 1) := by decide +kernel
theorem ef_3_2 (m : MethodId) (p0 : Int32) : entryFrame m #[(.int p0)] 1 = mkF m 0 #[.val (.int p0)] [] := by first | (simp [entryFrame, mkF, argsToLocals, Value.category]; done) | rfl
def Q_rm3 (Z : State) (p0 : Int32) (b5 b6 : Addr) (h0 : Heap) (n0 : Nat) (v : Option Value) (h : Heap) (L : List Loc) : Prop := v = some (own_exp b5 b6 p0) ∧ Fr n0 L ∧ h = h0
set_option maxRecDepth 65536 in
set_option maxHeartbeats 40000000 in
theorem rm3 (l : Launch) (Z : State) (a0 : Array Value) (hw : ∀ d ∈ tables_1, d.before a0 Z = true) (ws : List Jvm.Cond) (p0 : Int32) (b5 b6 : Addr) (h0 : Heap) (n0 : Nat) (Z0 : n0 ≤ h0.size) (S5 : Sta Z h0 "com/example/tollgate/tollgate/policy/StaticTable" "SSD_CONSTRAINTS" "Lcom/example/tollgate/tollgate/policy/StaticTable;" (.ref b5)) (S6 : Sta Z h0 "com/example/tollgate/tollgate/policy/StaticTable" "SSD_MEMBERS" "Lcom/example/tollgate/tollgate/policy/StaticTable;" (.ref b6)) :
    MetFree l (⟨"com/example/tollgate/tollgate/policy/StaticTableGetCompanionPinLaw", "expected", "(I)Lcom/example/tollgate/tollgate/policy/StaticTable;"⟩ : MethodName) (head1 (Jvm.Cond.code (⟨"com/example/tollgate/tollgate/policy/StaticTableGetCompanionPinLaw", "expected", "(I)Lcom/example/tollgate/tollgate/policy/StaticTable;"⟩ : MethodName) method_3_code 1 (some (.object "com/example/tollgate/tollgate/policy/StaticTable")) :: ws) ({ frames := 0, cells := 0, slots := 0, locals := 0 } : Room)) (fun a U => a = #[(.int p0)] ∧ Z.Warmed39 U.vm ∧ U.heap = h0) (fun _ _ _ _ _ => True) (fun _ U o U' => ∃ v L, o = .returned v ∧ Q_rm3 Z p0 b5 b6 h0 n0 v U'.heap L ∧ FrameEnd U o U' L ({ frames := 0, cells := 0, slots := 0, locals := 0 } : Room).cells ({ frames := 0, cells := 0, slots := 0, locals := 0 } : Room).slots) := by
  refine MetFree.of_bodySF (plainFor_of_name pn_com_example_tollgate_tollgate_policy_StaticTableGetCompanionPinLaw) hisR ?_
  intro p e s m args below meth c s₁ Bd hml0 hP hK
  obtain ⟨rfl, hZ, hh⟩ := hP
  have hx := Bd.exec
  have hby := Bd.bytes
  have hlk := BodyLoose.notSynchronized Bd
  have hrt := Bd.returns
  have hml : c.maxLocals = 1 := hml0
  have hown : s.vm.findClass "com/example/tollgate/tollgate/policy/StaticTableGetCompanionPinLaw" = some m.cls := findClass_of_methodNamed Bd.named
  have hnm := (name_of_methodNamed Bd.named Bd.method).1
  have X0 : Stand p l e ({ frames := 0, cells := 0, slots := 0, locals := 0 } : Room) s m #[(.int p0)] below meth c s₁ [] 0 0 := Stand.of_body Bd
  have e0 : s₁.heap = h0 := by rw [← hh, Bd.state]; rfl
  have N0 := Fr.nil n0
  have K0 : Keep h0 h0 [] := Keep.refl h0 _
  show Runs p e below (QE s (Q_rm3 Z p0 b5 b6 h0 n0) ({ frames := 0, cells := 0, slots := 0, locals := 0 } : Room).cells ({ frames := 0, cells := 0, slots := 0, locals := 0 } : Room).slots) (s₁.setTop (entryFrame m #[(.int p0)] 1))
  rw [ef_3_2 m p0]
  show Runs p e below _ (s₁.setTop (mkF m 0 #[.val (.int p0)] []))
  refine Runs.by (fun _ hr => XS.iloadN X0.here hx rfl (hb hby d3_0) rfl  hr) ?_
  show Runs p e below _ (s₁.setTop (mkF m 1 #[.val (.int p0)] [(.int p0)]))
  refine Runs.by (fun _ hr => XS.iconst X0.here hx rfl (hb hby d3_1) hr) ?_
  show Runs p e below _ (s₁.setTop (mkF m 2 #[.val (.int p0)] [(.int (5 : Int32)), (.int p0)]))
  by_cases hc2 : p0 = (5 : Int32)
  · -- pc 2: p0 = (5 : Int32)
    refine Runs.by (fun _ hr => XS.icmpNo X0.here hx rfl (hb hby d3_2) rfl (teq hc2).2 hr) ?_
    show Runs p e below _ (s₁.setTop (mkF m 5 #[.val (.int p0)] []))
    obtain ⟨T1, X1, e1, st1⟩ := getS2 X0 hx hZ hown (host := "") (Or.inl (hw _ (List.mem_of_getElem? (i := 23) rfl))) Via.refl e0 S6 (g := (mkF m 5 #[.val (.int p0)] [])) rfl (hb hby d3_5)
    refine Runs.by st1 ?_
    show Runs p e below _ (T1.setTop (mkF m 8 #[.val (.int p0)] [(.ref b6)]))
    refine Runs.ret X1 hx hrt hlk (Or.inr (Or.inr (Or.inr (Or.inr ⟨rfl, rfl, rfl⟩)))) rfl (hb hby d3_8) (by decide) (by decide) ?_
    rw [e1]
    exact ⟨by simp [own_exp, *], N0, rfl⟩
  · -- pc 2: not p0 = (5 : Int32)
    refine Runs.by (fun _ hr => XS.icmpYes X0.here hx rfl (pc0 := 2) (pc' := 9) rfl (hb hby d3_2) rfl (feq hc2).2 (by decide) (by decide) hr) ?_
    show Runs p e below _ (s₁.setTop (mkF m 9 #[.val (.int p0)] []))
    refine Runs.by (fun _ hr => XS.iloadN X0.here hx rfl (hb hby d3_9) rfl  hr) ?_
    show Runs p e below _ (s₁.setTop (mkF m 10 #[.val (.int p0)] [(.int p0)]))
    refine Runs.by (fun _ hr => XS.bipush X0.here hx rfl (hb hby d3_10) hr) ?_
    show Runs p e below _ (s₁.setTop (mkF m 12 #[.val (.int p0)] [(.int (6 : Int32)), (.int p0)]))
    by_cases hc12 : p0 = (6 : Int32)
    · -- pc 12: p0 = (6 : Int32)
      refine Runs.by (fun _ hr => XS.icmpNo X0.here hx rfl (hb hby d3_12) rfl (teq hc12).2 hr) ?_
      show Runs p e below _ (s₁.setTop (mkF m 15 #[.val (.int p0)] []))
      obtain ⟨T2, X2, e2, st2⟩ := getS2 X0 hx hZ hown (host := "") (Or.inl (hw _ (List.mem_of_getElem? (i := 22) rfl))) Via.refl e0 S5 (g := (mkF m 15 #[.val (.int p0)] [])) rfl (hb hby d3_15)
      refine Runs.by st2 ?_
      show Runs p e below _ (T2.setTop (mkF m 18 #[.val (.int p0)] [(.ref b5)]))
      refine Runs.ret X2 hx hrt hlk (Or.inr (Or.inr (Or.inr (Or.inr ⟨rfl, rfl, rfl⟩)))) rfl (hb hby d3_18) (by decide) (by decide) ?_
      rw [e2]
      exact ⟨by simp [own_exp, *], N0, rfl⟩
    · -- pc 12: not p0 = (6 : Int32)
      refine Runs.by (fun _ hr => XS.icmpYes X0.here hx rfl (pc0 := 12) (pc' := 19) rfl (hb hby d3_12) rfl (feq hc12).2 (by decide) (by decide) hr) ?_
      show Runs p e below _ (s₁.setTop (mkF m 19 #[.val (.int p0)] []))
      refine Runs.by (fun _ hr => XS.aconstNull X0.here hx rfl (hb hby d3_19) hr) ?_
      show Runs p e below _ (s₁.setTop (mkF m 20 #[.val (.int p0)] [.null]))
      refine Runs.ret X0 hx hrt hlk (Or.inr (Or.inr (Or.inr (Or.inr ⟨rfl, rfl, rfl⟩)))) rfl (hb hby d3_20) (by decide) (by decide) ?_
      rw [e0]
      exact ⟨by simp [own_exp, *], N0, rfl⟩
theorem ef_0_3 (m : MethodId) (p0 : Int32) : entryFrame m #[(.int p0)] maxLocals = mkF m 0 #[.val (.int p0), .unset, .unset, .unset] [] := by first | (simp [entryFrame, mkF, argsToLocals, Value.category, maxLocals]; done) | rfl
def Q_rm0 (Z : State) (p0 : Int32) (b0 b1 b2 b3 b4 b5 b6 : Addr) (h0 : Heap) (n0 : Nat) (v : Option Value) (h : Heap) (L : List Loc) : Prop := v = some (.int 1) ∧ Fr n0 L
theorem pd_0 : parseMethodDescriptor "(I)Lcom/example/tollgate/tollgate/policy/StaticTable;" = some ⟨[.int], some (.object "com/example/tollgate/tollgate/policy/StaticTable")⟩ := by decide +kernel
theorem pd_1 : parseMethodDescriptor "()Lcom/example/tollgate/tollgate/policy/StaticTable;" = some ⟨[], some (.object "com/example/tollgate/tollgate/policy/StaticTable")⟩ := by decide +kernel
set_option maxRecDepth 65536 in
set_option maxHeartbeats 40000000 in
theorem rm0 (l : Launch) (Z : State) (a0 : Array Value) (hw : ∀ d ∈ tables_1, d.before a0 Z = true) (ws : List Jvm.Cond) (p0 : Int32) (b0 b1 b2 b3 b4 b5 b6 : Addr) (h0 : Heap) (n0 : Nat) (Z0 : n0 ≤ h0.size) (S0 : Sta Z h0 "com/example/tollgate/tollgate/policy/StaticTable" "PLAYS" "Lcom/example/tollgate/tollgate/policy/StaticTable;" (.ref b0)) (S1 : Sta Z h0 "com/example/tollgate/tollgate/policy/StaticTable" "PERMISSIONS" "Lcom/example/tollgate/tollgate/policy/StaticTable;" (.ref b1)) (S2 : Sta Z h0 "com/example/tollgate/tollgate/policy/StaticTable" "PROHIBITIONS" "Lcom/example/tollgate/tollgate/policy/StaticTable;" (.ref b2)) (S3 : Sta Z h0 "com/example/tollgate/tollgate/policy/StaticTable" "ROLE_PARENTS" "Lcom/example/tollgate/tollgate/policy/StaticTable;" (.ref b3)) (S4 : Sta Z h0 "com/example/tollgate/tollgate/policy/StaticTable" "ORG_PARENTS" "Lcom/example/tollgate/tollgate/policy/StaticTable;" (.ref b4)) (S5 : Sta Z h0 "com/example/tollgate/tollgate/policy/StaticTable" "SSD_CONSTRAINTS" "Lcom/example/tollgate/tollgate/policy/StaticTable;" (.ref b5)) (S6 : Sta Z h0 "com/example/tollgate/tollgate/policy/StaticTable" "SSD_MEMBERS" "Lcom/example/tollgate/tollgate/policy/StaticTable;" (.ref b6)) (E0 : Exa Z h0 b0 "com/example/tollgate/tollgate/policy/StaticTable") (E1 : Exa Z h0 b1 "com/example/tollgate/tollgate/policy/StaticTable") (E2 : Exa Z h0 b2 "com/example/tollgate/tollgate/policy/StaticTable") (E3 : Exa Z h0 b3 "com/example/tollgate/tollgate/policy/StaticTable") (E4 : Exa Z h0 b4 "com/example/tollgate/tollgate/policy/StaticTable") (E5 : Exa Z h0 b5 "com/example/tollgate/tollgate/policy/StaticTable") (E6 : Exa Z h0 b6 "com/example/tollgate/tollgate/policy/StaticTable") (nE0_5 : b0 ≠ b5) (nE1_5 : b1 ≠ b5) (nE2_5 : b2 ≠ b5) (nE3_5 : b3 ≠ b5) (nE4_5 : b4 ≠ b5) (nE0_6 : b0 ≠ b6) (nE1_6 : b1 ≠ b6) (nE2_6 : b2 ≠ b6) (nE3_6 : b3 ≠ b6) (nE4_6 : b4 ≠ b6) (nE5_6 : b5 ≠ b6) :
    MetFree l x (head1 (Jvm.Cond.code x code maxLocals ret :: ws) room_1) (fun a U => a = #[(.int p0)] ∧ Z.Warmed39 U.vm ∧ U.heap = h0) (fun _ _ _ _ _ => True) (fun _ U o U' => ∃ v L, o = .returned v ∧ Q_rm0 Z p0 b0 b1 b2 b3 b4 b5 b6 h0 n0 v U'.heap L ∧ FrameEnd U o U' L room_1.cells room_1.slots) := by
  refine MetFree.of_bodySF (plainFor_of_name pn_com_example_tollgate_tollgate_policy_StaticTableGetCompanionPinLaw) hisR ?_
  intro p e s m args below meth c s₁ Bd hml0 hP hK
  obtain ⟨rfl, hZ, hh⟩ := hP
  have hx := Bd.exec
  have hby := Bd.bytes
  have hlk := BodyLoose.notSynchronized Bd
  have hrt := Bd.returns
  have hml : c.maxLocals = 4 := hml0
  have hown : s.vm.findClass "com/example/tollgate/tollgate/policy/StaticTableGetCompanionPinLaw" = some m.cls := findClass_of_methodNamed Bd.named
  have hnm := (name_of_methodNamed Bd.named Bd.method).1
  have X0 : Stand p l e room_1 s m #[(.int p0)] below meth c s₁ [] 0 0 := Stand.of_body Bd
  have e0 : s₁.heap = h0 := by rw [← hh, Bd.state]; rfl
  have N0 := Fr.nil n0
  have K0 : Keep h0 h0 [] := Keep.refl h0 _
  show Runs p e below (QE s (Q_rm0 Z p0 b0 b1 b2 b3 b4 b5 b6 h0 n0) room_1.cells room_1.slots) (s₁.setTop (entryFrame m #[(.int p0)] maxLocals))
  rw [ef_0_3 m p0]
  show Runs p e below _ (s₁.setTop (mkF m 0 #[.val (.int p0), .unset, .unset, .unset] []))
  refine Runs.by (fun _ hr => XS.iloadN X0.here hx rfl (hb hby at_0) rfl  hr) ?_
  show Runs p e below _ (s₁.setTop (mkF m 1 #[.val (.int p0), .unset, .unset, .unset] [(.int p0)]))
  refine Runs.by (fun _ hr => X0.ldcI hx hown (mvT hZ (hw _ (List.mem_of_getElem? (i := 0) rfl))) (g := (mkF m 1 #[.val (.int p0), .unset, .unset, .unset] [(.int p0)])) rfl (hb hby at_1) hr) ?_
  show Runs p e below _ (s₁.setTop (mkF m 3 #[.val (.int p0), .unset, .unset, .unset] [(.int (2147483647 : Int32)), (.int p0)]))
  refine Runs.by (fun _ hr => XS.iand X0.here hx rfl (hb hby at_3) rfl hr) ?_
  show Runs p e below _ (s₁.setTop (mkF m 4 #[.val (.int p0), .unset, .unset, .unset] [(.int (p0 &&& (2147483647 : Int32)))]))
  refine Runs.by (fun _ hr => XS.bipush X0.here hx rfl (hb hby at_4) hr) ?_
  show Runs p e below _ (s₁.setTop (mkF m 6 #[.val (.int p0), .unset, .unset, .unset] [(.int (7 : Int32)), (.int (p0 &&& (2147483647 : Int32)))]))
  refine Runs.by (fun _ hr => iremM X0 hx rfl (hb hby at_6) rfl (by decide) hr) ?_
  show Runs p e below _ (s₁.setTop (mkF m 7 #[.val (.int p0), .unset, .unset, .unset] [(.int ((p0 &&& (2147483647 : Int32)) % (7 : Int32)))]))
  refine Runs.by (fun _ hr => XS.istoreN X0.here hx rfl (hb hby at_7) rfl (l' := #[.val (.int p0), .val (.int ((p0 &&& (2147483647 : Int32)) % (7 : Int32))), .unset, .unset]) rfl hr) ?_
  have hk := own_mod7 p0
  generalize (p0 &&& (2147483647 : Int32)) % (7 : Int32) = kk at hk ⊢
  rcases hk with rfl | rfl | rfl | rfl | rfl | rfl | rfl
  · skip
    show Runs p e below _ (s₁.setTop (mkF m 8 #[.val (.int p0), .val (.int (0 : Int32)), .unset, .unset] []))
    refine Runs.by (fun _ hr => XS.iloadN X0.here hx rfl (hb hby at_8) rfl  hr) ?_
    show Runs p e below _ (s₁.setTop (mkF m 9 #[.val (.int p0), .val (.int (0 : Int32)), .unset, .unset] [(.int (0 : Int32))]))
    obtain ⟨_, _, ⟨T1, L1, k1, n1⟩, -, X1, ⟨Lc1, hQ1, l1, y1, z1⟩, st1⟩ := Jvm.LawKit.callS X0 hx (y := (⟨"com/example/tollgate/tollgate/policy/StaticTableGetCompanionPinLaw", "pick", "(I)Lcom/example/tollgate/tollgate/policy/StaticTable;"⟩ : MethodName)) hown (mvT hZ (hw _ (List.mem_of_getElem? (i := 1) rfl))) (mvT hZ (hw _ (List.mem_of_getElem? (i := 2) rfl))) (mvT hZ (hw _ (List.mem_of_getElem? (i := 3) rfl))) (mvT hZ (hw _ (List.mem_of_getElem? (i := 4) rfl))) (by decide) (backOf (W := 0) (rm1 l Z a0 hw [] (0 : Int32) b0 b1 b2 b3 b4 b5 b6 h0 n0 (Nat.le_trans Z0 K0.1) S0 S1 S2 S3 S4 S5 S6) hZ (hw _ (List.mem_of_getElem? (i := 4) rfl)) (hw _ (List.mem_of_getElem? (i := 3) rfl)) (by decide) (by decide)) (g := (mkF m 9 #[.val (.int p0), .val (.int (0 : Int32)), .unset, .unset] [(.int (0 : Int32))])) rfl (by rw [hml]; rfl) (argsL := [(.int (0 : Int32))]) (rest := []) (lenOf pd_0 rfl) rfl (by show 2 * 0 + _ ≤ _; exact Nat.le_of_eq rfl) (hb hby at_9) (fun _ _ => ⟨rfl, e0, (by decide : 0 + 0 ≤ _), (by decide : 0 + 0 ≤ _)⟩)
    dsimp only [Pt.U, Pt.locs, Pt.cells, Pt.slots] at X1 l1 y1 z1 st1 hQ1
    subst l1 y1 z1
    obtain ⟨rfl, Nq1, eq1⟩ := hQ1
    have N1 := Fr.app N0 Nq1
    refine Runs.by (fun t hr => st1 t hr) ?_
    rw [show own_pick b0 b1 b2 b3 b4 b5 b6 (0 : Int32) = b0 from rfl]
    show Runs p e below _ (T1.setTop (mkF m 12 #[.val (.int p0), .val (.int (0 : Int32)), .unset, .unset] [(.ref b0)]))
    refine Runs.by (fun _ hr => XS.astoreN X1.here hx rfl (hb hby at_12) rfl rfl (l' := #[.val (.int p0), .val (.int (0 : Int32)), .val (.ref b0), .unset]) rfl hr) ?_
    show Runs p e below _ (T1.setTop (mkF m 13 #[.val (.int p0), .val (.int (0 : Int32)), .val (.ref b0), .unset] []))
    refine Runs.by (fun _ hr => XS.aloadN X1.here hx rfl (hb hby at_13) rfl rfl hr) ?_
    show Runs p e below _ (T1.setTop (mkF m 14 #[.val (.int p0), .val (.int (0 : Int32)), .val (.ref b0), .unset] [(.ref b0)]))
    obtain ⟨cq2, kq2, q2a, q2b, q2c⟩ := isOf hZ eq1 E0
    obtain ⟨_, _, ⟨T2, L2, k2, n2⟩, -, X2, ⟨Lc2, hQ2, l2, y2, z2⟩, st2⟩ := X1.virtualBack hx (y := (⟨"com/example/tollgate/tollgate/policy/StaticTable", "getCompanion", "()Lcom/example/tollgate/tollgate/policy/StaticTable;"⟩ : MethodName)) (z := (⟨"com/example/tollgate/tollgate/policy/StaticTable", "getCompanion", "()Lcom/example/tollgate/tollgate/policy/StaticTable;"⟩ : MethodName)) hown (mvT hZ (hw _ (List.mem_of_getElem? (i := 8) rfl))) (mvT hZ (hw _ (List.mem_of_getElem? (i := 9) rfl))) (notFace_of_selects (args := #[]) (mvT hZ (hw _ (List.mem_of_getElem? (i := 11) rfl)))) (mvT hZ (hw _ (List.mem_of_getElem? (i := 11) rfl))) (mvT hZ (hw _ (List.mem_of_getElem? (i := 10) rfl))) (by decide) (backOf (W := 0) (rm2 l Z a0 hw [] b0 b5 b6 h0 n0 (Nat.le_trans Z0 K0.1) S5 S6) hZ (hw _ (List.mem_of_getElem? (i := 12) rfl)) (hw _ (List.mem_of_getElem? (i := 6) rfl)) (by decide) (by decide)) q2a q2c (g := (mkF m 14 #[.val (.int p0), .val (.int (0 : Int32)), .val (.ref b0), .unset] [(.ref b0)])) rfl (by rw [hml]; rfl) (Steps.refl _) (argsL := []) (rest := []) (lenOf pd_1 rfl) rfl (by show 2 * 0 + _ ≤ _; exact Nat.le_of_eq rfl) (hb hby at_14) (fun _ _ => ⟨rfl, eq1, (by decide : 0 + 0 ≤ _), (by decide : 0 + 0 ≤ _)⟩)
    dsimp only [Pt.U, Pt.locs, Pt.cells, Pt.slots] at X2 l2 y2 z2 st2 hQ2
    subst l2 y2 z2
    obtain ⟨rfl, Nq2, eq2⟩ := hQ2
    have N2 := Fr.app N1 Nq2
    refine Runs.by (fun _ hr => st2.trans hr) ?_
    rw [show own_comp b5 b6 b0 = .null from by simp [own_comp, nE0_5, nE0_6]]
    show Runs p e below _ (T2.setTop (mkF m 17 #[.val (.int p0), .val (.int (0 : Int32)), .val (.ref b0), .unset] [.null]))
    refine Runs.by (fun _ hr => XS.astoreN X2.here hx rfl (hb hby at_17) rfl rfl (l' := #[.val (.int p0), .val (.int (0 : Int32)), .val (.ref b0), .val .null]) rfl hr) ?_
    show Runs p e below _ (T2.setTop (mkF m 18 #[.val (.int p0), .val (.int (0 : Int32)), .val (.ref b0), .val .null] []))
    refine Runs.by (fun _ hr => XS.aloadN X2.here hx rfl (hb hby at_18) rfl rfl hr) ?_
    show Runs p e below _ (T2.setTop (mkF m 19 #[.val (.int p0), .val (.int (0 : Int32)), .val (.ref b0), .val .null] [.null]))
    refine Runs.by (fun _ hr => XS.iloadN X2.here hx rfl (hb hby at_19) rfl  hr) ?_
    show Runs p e below _ (T2.setTop (mkF m 20 #[.val (.int p0), .val (.int (0 : Int32)), .val (.ref b0), .val .null] [(.int (0 : Int32)), .null]))
    obtain ⟨_, _, ⟨T3, L3, k3, n3⟩, -, X3, ⟨Lc3, hQ3, l3, y3, z3⟩, st3⟩ := Jvm.LawKit.callS X2 hx (y := (⟨"com/example/tollgate/tollgate/policy/StaticTableGetCompanionPinLaw", "expected", "(I)Lcom/example/tollgate/tollgate/policy/StaticTable;"⟩ : MethodName)) hown (mvT hZ (hw _ (List.mem_of_getElem? (i := 17) rfl))) (mvT hZ (hw _ (List.mem_of_getElem? (i := 18) rfl))) (mvT hZ (hw _ (List.mem_of_getElem? (i := 3) rfl))) (mvT hZ (hw _ (List.mem_of_getElem? (i := 19) rfl))) (by decide) (backOf (W := 1) (rm3 l Z a0 hw [] (0 : Int32) b5 b6 h0 n0 (Nat.le_trans Z0 K0.1) S5 S6) hZ (hw _ (List.mem_of_getElem? (i := 19) rfl)) (hw _ (List.mem_of_getElem? (i := 3) rfl)) (by decide) (by decide)) (g := (mkF m 20 #[.val (.int p0), .val (.int (0 : Int32)), .val (.ref b0), .val .null] [(.int (0 : Int32)), .null])) rfl (by rw [hml]; rfl) (argsL := [(.int (0 : Int32))]) (rest := [.null]) (lenOf pd_0 rfl) rfl (by show 2 * 0 + _ ≤ _; exact Nat.le_of_eq rfl) (hb hby at_20) (fun _ _ => ⟨rfl, eq2, (by decide : 0 + 0 ≤ _), (by decide : 0 + 0 ≤ _)⟩)
    dsimp only [Pt.U, Pt.locs, Pt.cells, Pt.slots] at X3 l3 y3 z3 st3 hQ3
    subst l3 y3 z3
    obtain ⟨rfl, Nq3, eq3⟩ := hQ3
    have N3 := Fr.app N2 Nq3
    refine Runs.by (fun t hr => st3 t hr) ?_
    rw [show own_exp b5 b6 (0 : Int32) = .null from rfl]
    show Runs p e below _ (T3.setTop (mkF m 23 #[.val (.int p0), .val (.int (0 : Int32)), .val (.ref b0), .val .null] [.null, .null]))
    refine Runs.by (fun _ hr => Jvm.RoadKit.acmp (g := (mkF m 23 #[.val (.int p0), .val (.int (0 : Int32)), .val (.ref b0), .val .null] [.null, .null])) X3 hx rfl rfl rfl (pc0 := 23) (pc' := 28) (same := true) rfl (hb hby at_23) rfl (decide_eq_true rfl) (by decide) (by decide) hr) ?_
    show Runs p e below _ (T3.setTop (mkF m 28 #[.val (.int p0), .val (.int (0 : Int32)), .val (.ref b0), .val .null] []))
    refine Runs.by (fun _ hr => XS.aloadN X3.here hx rfl (hb hby at_28) rfl rfl hr) ?_
    show Runs p e below _ (T3.setTop (mkF m 29 #[.val (.int p0), .val (.int (0 : Int32)), .val (.ref b0), .val .null] [.null]))
    refine Runs.by (fun _ hr => XS.ifnullYes X3.here hx rfl (pc0 := 29) (pc' := 42) rfl (hb hby at_29) rfl (by decide) (by decide) hr) ?_
    show Runs p e below _ (T3.setTop (mkF m 42 #[.val (.int p0), .val (.int (0 : Int32)), .val (.ref b0), .val .null] []))
    refine Runs.by (fun _ hr => XS.iconst X3.here hx rfl (hb hby at_42) hr) ?_
    show Runs p e below _ (T3.setTop (mkF m 43 #[.val (.int p0), .val (.int (0 : Int32)), .val (.ref b0), .val .null] [(.int (1 : Int32))]))
    refine Runs.ret X3 hx hrt hlk (Or.inl ⟨rfl, by simp, _, rfl⟩) (by rfl) (hb hby at_43) (by decide) (by decide) ?_
    rw [eq3]
    exact ⟨rfl, N3⟩
  · skip
    show Runs p e below _ (s₁.setTop (mkF m 8 #[.val (.int p0), .val (.int (1 : Int32)), .unset, .unset] []))
    refine Runs.by (fun _ hr => XS.iloadN X0.here hx rfl (hb hby at_8) rfl  hr) ?_
    show Runs p e below _ (s₁.setTop (mkF m 9 #[.val (.int p0), .val (.int (1 : Int32)), .unset, .unset] [(.int (1 : Int32))]))
    obtain ⟨_, _, ⟨T4, L4, k4, n4⟩, -, X4, ⟨Lc4, hQ4, l4, y4, z4⟩, st4⟩ := Jvm.LawKit.callS X0 hx (y := (⟨"com/example/tollgate/tollgate/policy/StaticTableGetCompanionPinLaw", "pick", "(I)Lcom/example/tollgate/tollgate/policy/StaticTable;"⟩ : MethodName)) hown (mvT hZ (hw _ (List.mem_of_getElem? (i := 1) rfl))) (mvT hZ (hw _ (List.mem_of_getElem? (i := 2) rfl))) (mvT hZ (hw _ (List.mem_of_getElem? (i := 3) rfl))) (mvT hZ (hw _ (List.mem_of_getElem? (i := 4) rfl))) (by decide) (backOf (W := 0) (rm1 l Z a0 hw [] (1 : Int32) b0 b1 b2 b3 b4 b5 b6 h0 n0 (Nat.le_trans Z0 K0.1) S0 S1 S2 S3 S4 S5 S6) hZ (hw _ (List.mem_of_getElem? (i := 4) rfl)) (hw _ (List.mem_of_getElem? (i := 3) rfl)) (by decide) (by decide)) (g := (mkF m 9 #[.val (.int p0), .val (.int (1 : Int32)), .unset, .unset] [(.int (1 : Int32))])) rfl (by rw [hml]; rfl) (argsL := [(.int (1 : Int32))]) (rest := []) (lenOf pd_0 rfl) rfl (by show 2 * 0 + _ ≤ _; exact Nat.le_of_eq rfl) (hb hby at_9) (fun _ _ => ⟨rfl, e0, (by decide : 0 + 0 ≤ _), (by decide : 0 + 0 ≤ _)⟩)
    dsimp only [Pt.U, Pt.locs, Pt.cells, Pt.slots] at X4 l4 y4 z4 st4 hQ4
    subst l4 y4 z4
    obtain ⟨rfl, Nq4, eq4⟩ := hQ4
    have N4 := Fr.app N0 Nq4
    refine Runs.by (fun t hr => st4 t hr) ?_
    rw [show own_pick b0 b1 b2 b3 b4 b5 b6 (1 : Int32) = b1 from rfl]
    show Runs p e below _ (T4.setTop (mkF m 12 #[.val (.int p0), .val (.int (1 : Int32)), .unset, .unset] [(.ref b1)]))
    refine Runs.by (fun _ hr => XS.astoreN X4.here hx rfl (hb hby at_12) rfl rfl (l' := #[.val (.int p0), .val (.int (1 : Int32)), .val (.ref b1), .unset]) rfl hr) ?_
    show Runs p e below _ (T4.setTop (mkF m 13 #[.val (.int p0), .val (.int (1 : Int32)), .val (.ref b1), .unset] []))
    refine Runs.by (fun _ hr => XS.aloadN X4.here hx rfl (hb hby at_13) rfl rfl hr) ?_
    show Runs p e below _ (T4.setTop (mkF m 14 #[.val (.int p0), .val (.int (1 : Int32)), .val (.ref b1), .unset] [(.ref b1)]))
    obtain ⟨cq5, kq5, q5a, q5b, q5c⟩ := isOf hZ eq4 E1
    obtain ⟨_, _, ⟨T5, L5, k5, n5⟩, -, X5, ⟨Lc5, hQ5, l5, y5, z5⟩, st5⟩ := X4.virtualBack hx (y := (⟨"com/example/tollgate/tollgate/policy/StaticTable", "getCompanion", "()Lcom/example/tollgate/tollgate/policy/StaticTable;"⟩ : MethodName)) (z := (⟨"com/example/tollgate/tollgate/policy/StaticTable", "getCompanion", "()Lcom/example/tollgate/tollgate/policy/StaticTable;"⟩ : MethodName)) hown (mvT hZ (hw _ (List.mem_of_getElem? (i := 8) rfl))) (mvT hZ (hw _ (List.mem_of_getElem? (i := 9) rfl))) (notFace_of_selects (args := #[]) (mvT hZ (hw _ (List.mem_of_getElem? (i := 11) rfl)))) (mvT hZ (hw _ (List.mem_of_getElem? (i := 11) rfl))) (mvT hZ (hw _ (List.mem_of_getElem? (i := 10) rfl))) (by decide) (backOf (W := 0) (rm2 l Z a0 hw [] b1 b5 b6 h0 n0 (Nat.le_trans Z0 K0.1) S5 S6) hZ (hw _ (List.mem_of_getElem? (i := 12) rfl)) (hw _ (List.mem_of_getElem? (i := 6) rfl)) (by decide) (by decide)) q5a q5c (g := (mkF m 14 #[.val (.int p0), .val (.int (1 : Int32)), .val (.ref b1), .unset] [(.ref b1)])) rfl (by rw [hml]; rfl) (Steps.refl _) (argsL := []) (rest := []) (lenOf pd_1 rfl) rfl (by show 2 * 0 + _ ≤ _; exact Nat.le_of_eq rfl) (hb hby at_14) (fun _ _ => ⟨rfl, eq4, (by decide : 0 + 0 ≤ _), (by decide : 0 + 0 ≤ _)⟩)
    dsimp only [Pt.U, Pt.locs, Pt.cells, Pt.slots] at X5 l5 y5 z5 st5 hQ5
    subst l5 y5 z5
    obtain ⟨rfl, Nq5, eq5⟩ := hQ5
    have N5 := Fr.app N4 Nq5
    refine Runs.by (fun _ hr => st5.trans hr) ?_
    rw [show own_comp b5 b6 b1 = .null from by simp [own_comp, nE1_5, nE1_6]]
    show Runs p e below _ (T5.setTop (mkF m 17 #[.val (.int p0), .val (.int (1 : Int32)), .val (.ref b1), .unset] [.null]))
    refine Runs.by (fun _ hr => XS.astoreN X5.here hx rfl (hb hby at_17) rfl rfl (l' := #[.val (.int p0), .val (.int (1 : Int32)), .val (.ref b1), .val .null]) rfl hr) ?_
    show Runs p e below _ (T5.setTop (mkF m 18 #[.val (.int p0), .val (.int (1 : Int32)), .val (.ref b1), .val .null] []))
    refine Runs.by (fun _ hr => XS.aloadN X5.here hx rfl (hb hby at_18) rfl rfl hr) ?_
    show Runs p e below _ (T5.setTop (mkF m 19 #[.val (.int p0), .val (.int (1 : Int32)), .val (.ref b1), .val .null] [.null]))
    refine Runs.by (fun _ hr => XS.iloadN X5.here hx rfl (hb hby at_19) rfl  hr) ?_
    show Runs p e below _ (T5.setTop (mkF m 20 #[.val (.int p0), .val (.int (1 : Int32)), .val (.ref b1), .val .null] [(.int (1 : Int32)), .null]))
    obtain ⟨_, _, ⟨T6, L6, k6, n6⟩, -, X6, ⟨Lc6, hQ6, l6, y6, z6⟩, st6⟩ := Jvm.LawKit.callS X5 hx (y := (⟨"com/example/tollgate/tollgate/policy/StaticTableGetCompanionPinLaw", "expected", "(I)Lcom/example/tollgate/tollgate/policy/StaticTable;"⟩ : MethodName)) hown (mvT hZ (hw _ (List.mem_of_getElem? (i := 17) rfl))) (mvT hZ (hw _ (List.mem_of_getElem? (i := 18) rfl))) (mvT hZ (hw _ (List.mem_of_getElem? (i := 3) rfl))) (mvT hZ (hw _ (List.mem_of_getElem? (i := 19) rfl))) (by decide) (backOf (W := 1) (rm3 l Z a0 hw [] (1 : Int32) b5 b6 h0 n0 (Nat.le_trans Z0 K0.1) S5 S6) hZ (hw _ (List.mem_of_getElem? (i := 19) rfl)) (hw _ (List.mem_of_getElem? (i := 3) rfl)) (by decide) (by decide)) (g := (mkF m 20 #[.val (.int p0), .val (.int (1 : Int32)), .val (.ref b1), .val .null] [(.int (1 : Int32)), .null])) rfl (by rw [hml]; rfl) (argsL := [(.int (1 : Int32))]) (rest := [.null]) (lenOf pd_0 rfl) rfl (by show 2 * 0 + _ ≤ _; exact Nat.le_of_eq rfl) (hb hby at_20) (fun _ _ => ⟨rfl, eq5, (by decide : 0 + 0 ≤ _), (by decide : 0 + 0 ≤ _)⟩)
    dsimp only [Pt.U, Pt.locs, Pt.cells, Pt.slots] at X6 l6 y6 z6 st6 hQ6
    subst l6 y6 z6
    obtain ⟨rfl, Nq6, eq6⟩ := hQ6
    have N6 := Fr.app N5 Nq6
    refine Runs.by (fun t hr => st6 t hr) ?_
    rw [show own_exp b5 b6 (1 : Int32) = .null from rfl]
    show Runs p e below _ (T6.setTop (mkF m 23 #[.val (.int p0), .val (.int (1 : Int32)), .val (.ref b1), .val .null] [.null, .null]))
    refine Runs.by (fun _ hr => Jvm.RoadKit.acmp (g := (mkF m 23 #[.val (.int p0), .val (.int (1 : Int32)), .val (.ref b1), .val .null] [.null, .null])) X6 hx rfl rfl rfl (pc0 := 23) (pc' := 28) (same := true) rfl (hb hby at_23) rfl (decide_eq_true rfl) (by decide) (by decide) hr) ?_
    show Runs p e below _ (T6.setTop (mkF m 28 #[.val (.int p0), .val (.int (1 : Int32)), .val (.ref b1), .val .null] []))
    refine Runs.by (fun _ hr => XS.aloadN X6.here hx rfl (hb hby at_28) rfl rfl hr) ?_
    show Runs p e below _ (T6.setTop (mkF m 29 #[.val (.int p0), .val (.int (1 : Int32)), .val (.ref b1), .val .null] [.null]))
    refine Runs.by (fun _ hr => XS.ifnullYes X6.here hx rfl (pc0 := 29) (pc' := 42) rfl (hb hby at_29) rfl (by decide) (by decide) hr) ?_
    show Runs p e below _ (T6.setTop (mkF m 42 #[.val (.int p0), .val (.int (1 : Int32)), .val (.ref b1), .val .null] []))
    refine Runs.by (fun _ hr => XS.iconst X6.here hx rfl (hb hby at_42) hr) ?_
    show Runs p e below _ (T6.setTop (mkF m 43 #[.val (.int p0), .val (.int (1 : Int32)), .val (.ref b1), .val .null] [(.int (1 : Int32))]))
    refine Runs.ret X6 hx hrt hlk (Or.inl ⟨rfl, by simp, _, rfl⟩) (by rfl) (hb hby at_43) (by decide) (by decide) ?_
    rw [eq6]
    exact ⟨rfl, N6⟩
  · skip
    show Runs p e below _ (s₁.setTop (mkF m 8 #[.val (.int p0), .val (.int (2 : Int32)), .unset, .unset] []))
    refine Runs.by (fun _ hr => XS.iloadN X0.here hx rfl (hb hby at_8) rfl  hr) ?_
    show Runs p e below _ (s₁.setTop (mkF m 9 #[.val (.int p0), .val (.int (2 : Int32)), .unset, .unset] [(.int (2 : Int32))]))
    obtain ⟨_, _, ⟨T7, L7, k7, n7⟩, -, X7, ⟨Lc7, hQ7, l7, y7, z7⟩, st7⟩ := Jvm.LawKit.callS X0 hx (y := (⟨"com/example/tollgate/tollgate/policy/StaticTableGetCompanionPinLaw", "pick", "(I)Lcom/example/tollgate/tollgate/policy/StaticTable;"⟩ : MethodName)) hown (mvT hZ (hw _ (List.mem_of_getElem? (i := 1) rfl))) (mvT hZ (hw _ (List.mem_of_getElem? (i := 2) rfl))) (mvT hZ (hw _ (List.mem_of_getElem? (i := 3) rfl))) (mvT hZ (hw _ (List.mem_of_getElem? (i := 4) rfl))) (by decide) (backOf (W := 0) (rm1 l Z a0 hw [] (2 : Int32) b0 b1 b2 b3 b4 b5 b6 h0 n0 (Nat.le_trans Z0 K0.1) S0 S1 S2 S3 S4 S5 S6) hZ (hw _ (List.mem_of_getElem? (i := 4) rfl)) (hw _ (List.mem_of_getElem? (i := 3) rfl)) (by decide) (by decide)) (g := (mkF m 9 #[.val (.int p0), .val (.int (2 : Int32)), .unset, .unset] [(.int (2 : Int32))])) rfl (by rw [hml]; rfl) (argsL := [(.int (2 : Int32))]) (rest := []) (lenOf pd_0 rfl) rfl (by show 2 * 0 + _ ≤ _; exact Nat.le_of_eq rfl) (hb hby at_9) (fun _ _ => ⟨rfl, e0, (by decide : 0 + 0 ≤ _), (by decide : 0 + 0 ≤ _)⟩)
    dsimp only [Pt.U, Pt.locs, Pt.cells, Pt.slots] at X7 l7 y7 z7 st7 hQ7
    subst l7 y7 z7
    obtain ⟨rfl, Nq7, eq7⟩ := hQ7
    have N7 := Fr.app N0 Nq7
    refine Runs.by (fun t hr => st7 t hr) ?_
    rw [show own_pick b0 b1 b2 b3 b4 b5 b6 (2 : Int32) = b2 from rfl]
    show Runs p e below _ (T7.setTop (mkF m 12 #[.val (.int p0), .val (.int (2 : Int32)), .unset, .unset] [(.ref b2)]))
    refine Runs.by (fun _ hr => XS.astoreN X7.here hx rfl (hb hby at_12) rfl rfl (l' := #[.val (.int p0), .val (.int (2 : Int32)), .val (.ref b2), .unset]) rfl hr) ?_
    show Runs p e below _ (T7.setTop (mkF m 13 #[.val (.int p0), .val (.int (2 : Int32)), .val (.ref b2), .unset] []))
    refine Runs.by (fun _ hr => XS.aloadN X7.here hx rfl (hb hby at_13) rfl rfl hr) ?_
    show Runs p e below _ (T7.setTop (mkF m 14 #[.val (.int p0), .val (.int (2 : Int32)), .val (.ref b2), .unset] [(.ref b2)]))
    obtain ⟨cq8, kq8, q8a, q8b, q8c⟩ := isOf hZ eq7 E2
    obtain ⟨_, _, ⟨T8, L8, k8, n8⟩, -, X8, ⟨Lc8, hQ8, l8, y8, z8⟩, st8⟩ := X7.virtualBack hx (y := (⟨"com/example/tollgate/tollgate/policy/StaticTable", "getCompanion", "()Lcom/example/tollgate/tollgate/policy/StaticTable;"⟩ : MethodName)) (z := (⟨"com/example/tollgate/tollgate/policy/StaticTable", "getCompanion", "()Lcom/example/tollgate/tollgate/policy/StaticTable;"⟩ : MethodName)) hown (mvT hZ (hw _ (List.mem_of_getElem? (i := 8) rfl))) (mvT hZ (hw _ (List.mem_of_getElem? (i := 9) rfl))) (notFace_of_selects (args := #[]) (mvT hZ (hw _ (List.mem_of_getElem? (i := 11) rfl)))) (mvT hZ (hw _ (List.mem_of_getElem? (i := 11) rfl))) (mvT hZ (hw _ (List.mem_of_getElem? (i := 10) rfl))) (by decide) (backOf (W := 0) (rm2 l Z a0 hw [] b2 b5 b6 h0 n0 (Nat.le_trans Z0 K0.1) S5 S6) hZ (hw _ (List.mem_of_getElem? (i := 12) rfl)) (hw _ (List.mem_of_getElem? (i := 6) rfl)) (by decide) (by decide)) q8a q8c (g := (mkF m 14 #[.val (.int p0), .val (.int (2 : Int32)), .val (.ref b2), .unset] [(.ref b2)])) rfl (by rw [hml]; rfl) (Steps.refl _) (argsL := []) (rest := []) (lenOf pd_1 rfl) rfl (by show 2 * 0 + _ ≤ _; exact Nat.le_of_eq rfl) (hb hby at_14) (fun _ _ => ⟨rfl, eq7, (by decide : 0 + 0 ≤ _), (by decide : 0 + 0 ≤ _)⟩)
    dsimp only [Pt.U, Pt.locs, Pt.cells, Pt.slots] at X8 l8 y8 z8 st8 hQ8
    subst l8 y8 z8
    obtain ⟨rfl, Nq8, eq8⟩ := hQ8
    have N8 := Fr.app N7 Nq8
    refine Runs.by (fun _ hr => st8.trans hr) ?_
    rw [show own_comp b5 b6 b2 = .null from by simp [own_comp, nE2_5, nE2_6]]
    show Runs p e below _ (T8.setTop (mkF m 17 #[.val (.int p0), .val (.int (2 : Int32)), .val (.ref b2), .unset] [.null]))
    refine Runs.by (fun _ hr => XS.astoreN X8.here hx rfl (hb hby at_17) rfl rfl (l' := #[.val (.int p0), .val (.int (2 : Int32)), .val (.ref b2), .val .null]) rfl hr) ?_
    show Runs p e below _ (T8.setTop (mkF m 18 #[.val (.int p0), .val (.int (2 : Int32)), .val (.ref b2), .val .null] []))
    refine Runs.by (fun _ hr => XS.aloadN X8.here hx rfl (hb hby at_18) rfl rfl hr) ?_
    show Runs p e below _ (T8.setTop (mkF m 19 #[.val (.int p0), .val (.int (2 : Int32)), .val (.ref b2), .val .null] [.null]))
    refine Runs.by (fun _ hr => XS.iloadN X8.here hx rfl (hb hby at_19) rfl  hr) ?_
    show Runs p e below _ (T8.setTop (mkF m 20 #[.val (.int p0), .val (.int (2 : Int32)), .val (.ref b2), .val .null] [(.int (2 : Int32)), .null]))
    obtain ⟨_, _, ⟨T9, L9, k9, n9⟩, -, X9, ⟨Lc9, hQ9, l9, y9, z9⟩, st9⟩ := Jvm.LawKit.callS X8 hx (y := (⟨"com/example/tollgate/tollgate/policy/StaticTableGetCompanionPinLaw", "expected", "(I)Lcom/example/tollgate/tollgate/policy/StaticTable;"⟩ : MethodName)) hown (mvT hZ (hw _ (List.mem_of_getElem? (i := 17) rfl))) (mvT hZ (hw _ (List.mem_of_getElem? (i := 18) rfl))) (mvT hZ (hw _ (List.mem_of_getElem? (i := 3) rfl))) (mvT hZ (hw _ (List.mem_of_getElem? (i := 19) rfl))) (by decide) (backOf (W := 1) (rm3 l Z a0 hw [] (2 : Int32) b5 b6 h0 n0 (Nat.le_trans Z0 K0.1) S5 S6) hZ (hw _ (List.mem_of_getElem? (i := 19) rfl)) (hw _ (List.mem_of_getElem? (i := 3) rfl)) (by decide) (by decide)) (g := (mkF m 20 #[.val (.int p0), .val (.int (2 : Int32)), .val (.ref b2), .val .null] [(.int (2 : Int32)), .null])) rfl (by rw [hml]; rfl) (argsL := [(.int (2 : Int32))]) (rest := [.null]) (lenOf pd_0 rfl) rfl (by show 2 * 0 + _ ≤ _; exact Nat.le_of_eq rfl) (hb hby at_20) (fun _ _ => ⟨rfl, eq8, (by decide : 0 + 0 ≤ _), (by decide : 0 + 0 ≤ _)⟩)
    dsimp only [Pt.U, Pt.locs, Pt.cells, Pt.slots] at X9 l9 y9 z9 st9 hQ9
    subst l9 y9 z9
    obtain ⟨rfl, Nq9, eq9⟩ := hQ9
    have N9 := Fr.app N8 Nq9
    refine Runs.by (fun t hr => st9 t hr) ?_
    rw [show own_exp b5 b6 (2 : Int32) = .null from rfl]
    show Runs p e below _ (T9.setTop (mkF m 23 #[.val (.int p0), .val (.int (2 : Int32)), .val (.ref b2), .val .null] [.null, .null]))
    refine Runs.by (fun _ hr => Jvm.RoadKit.acmp (g := (mkF m 23 #[.val (.int p0), .val (.int (2 : Int32)), .val (.ref b2), .val .null] [.null, .null])) X9 hx rfl rfl rfl (pc0 := 23) (pc' := 28) (same := true) rfl (hb hby at_23) rfl (decide_eq_true rfl) (by decide) (by decide) hr) ?_
    show Runs p e below _ (T9.setTop (mkF m 28 #[.val (.int p0), .val (.int (2 : Int32)), .val (.ref b2), .val .null] []))
    refine Runs.by (fun _ hr => XS.aloadN X9.here hx rfl (hb hby at_28) rfl rfl hr) ?_
    show Runs p e below _ (T9.setTop (mkF m 29 #[.val (.int p0), .val (.int (2 : Int32)), .val (.ref b2), .val .null] [.null]))
    refine Runs.by (fun _ hr => XS.ifnullYes X9.here hx rfl (pc0 := 29) (pc' := 42) rfl (hb hby at_29) rfl (by decide) (by decide) hr) ?_
    show Runs p e below _ (T9.setTop (mkF m 42 #[.val (.int p0), .val (.int (2 : Int32)), .val (.ref b2), .val .null] []))
    refine Runs.by (fun _ hr => XS.iconst X9.here hx rfl (hb hby at_42) hr) ?_
    show Runs p e below _ (T9.setTop (mkF m 43 #[.val (.int p0), .val (.int (2 : Int32)), .val (.ref b2), .val .null] [(.int (1 : Int32))]))
    refine Runs.ret X9 hx hrt hlk (Or.inl ⟨rfl, by simp, _, rfl⟩) (by rfl) (hb hby at_43) (by decide) (by decide) ?_
    rw [eq9]
    exact ⟨rfl, N9⟩
  · skip
    show Runs p e below _ (s₁.setTop (mkF m 8 #[.val (.int p0), .val (.int (3 : Int32)), .unset, .unset] []))
    refine Runs.by (fun _ hr => XS.iloadN X0.here hx rfl (hb hby at_8) rfl  hr) ?_
    show Runs p e below _ (s₁.setTop (mkF m 9 #[.val (.int p0), .val (.int (3 : Int32)), .unset, .unset] [(.int (3 : Int32))]))
    obtain ⟨_, _, ⟨T10, L10, k10, n10⟩, -, X10, ⟨Lc10, hQ10, l10, y10, z10⟩, st10⟩ := Jvm.LawKit.callS X0 hx (y := (⟨"com/example/tollgate/tollgate/policy/StaticTableGetCompanionPinLaw", "pick", "(I)Lcom/example/tollgate/tollgate/policy/StaticTable;"⟩ : MethodName)) hown (mvT hZ (hw _ (List.mem_of_getElem? (i := 1) rfl))) (mvT hZ (hw _ (List.mem_of_getElem? (i := 2) rfl))) (mvT hZ (hw _ (List.mem_of_getElem? (i := 3) rfl))) (mvT hZ (hw _ (List.mem_of_getElem? (i := 4) rfl))) (by decide) (backOf (W := 0) (rm1 l Z a0 hw [] (3 : Int32) b0 b1 b2 b3 b4 b5 b6 h0 n0 (Nat.le_trans Z0 K0.1) S0 S1 S2 S3 S4 S5 S6) hZ (hw _ (List.mem_of_getElem? (i := 4) rfl)) (hw _ (List.mem_of_getElem? (i := 3) rfl)) (by decide) (by decide)) (g := (mkF m 9 #[.val (.int p0), .val (.int (3 : Int32)), .unset, .unset] [(.int (3 : Int32))])) rfl (by rw [hml]; rfl) (argsL := [(.int (3 : Int32))]) (rest := []) (lenOf pd_0 rfl) rfl (by show 2 * 0 + _ ≤ _; exact Nat.le_of_eq rfl) (hb hby at_9) (fun _ _ => ⟨rfl, e0, (by decide : 0 + 0 ≤ _), (by decide : 0 + 0 ≤ _)⟩)
    dsimp only [Pt.U, Pt.locs, Pt.cells, Pt.slots] at X10 l10 y10 z10 st10 hQ10
    subst l10 y10 z10
    obtain ⟨rfl, Nq10, eq10⟩ := hQ10
    have N10 := Fr.app N0 Nq10
    refine Runs.by (fun t hr => st10 t hr) ?_
    rw [show own_pick b0 b1 b2 b3 b4 b5 b6 (3 : Int32) = b3 from rfl]
    show Runs p e below _ (T10.setTop (mkF m 12 #[.val (.int p0), .val (.int (3 : Int32)), .unset, .unset] [(.ref b3)]))
    refine Runs.by (fun _ hr => XS.astoreN X10.here hx rfl (hb hby at_12) rfl rfl (l' := #[.val (.int p0), .val (.int (3 : Int32)), .val (.ref b3), .unset]) rfl hr) ?_
    show Runs p e below _ (T10.setTop (mkF m 13 #[.val (.int p0), .val (.int (3 : Int32)), .val (.ref b3), .unset] []))
    refine Runs.by (fun _ hr => XS.aloadN X10.here hx rfl (hb hby at_13) rfl rfl hr) ?_
    show Runs p e below _ (T10.setTop (mkF m 14 #[.val (.int p0), .val (.int (3 : Int32)), .val (.ref b3), .unset] [(.ref b3)]))
    obtain ⟨cq11, kq11, q11a, q11b, q11c⟩ := isOf hZ eq10 E3
    obtain ⟨_, _, ⟨T11, L11, k11, n11⟩, -, X11, ⟨Lc11, hQ11, l11, y11, z11⟩, st11⟩ := X10.virtualBack hx (y := (⟨"com/example/tollgate/tollgate/policy/StaticTable", "getCompanion", "()Lcom/example/tollgate/tollgate/policy/StaticTable;"⟩ : MethodName)) (z := (⟨"com/example/tollgate/tollgate/policy/StaticTable", "getCompanion", "()Lcom/example/tollgate/tollgate/policy/StaticTable;"⟩ : MethodName)) hown (mvT hZ (hw _ (List.mem_of_getElem? (i := 8) rfl))) (mvT hZ (hw _ (List.mem_of_getElem? (i := 9) rfl))) (notFace_of_selects (args := #[]) (mvT hZ (hw _ (List.mem_of_getElem? (i := 11) rfl)))) (mvT hZ (hw _ (List.mem_of_getElem? (i := 11) rfl))) (mvT hZ (hw _ (List.mem_of_getElem? (i := 10) rfl))) (by decide) (backOf (W := 0) (rm2 l Z a0 hw [] b3 b5 b6 h0 n0 (Nat.le_trans Z0 K0.1) S5 S6) hZ (hw _ (List.mem_of_getElem? (i := 12) rfl)) (hw _ (List.mem_of_getElem? (i := 6) rfl)) (by decide) (by decide)) q11a q11c (g := (mkF m 14 #[.val (.int p0), .val (.int (3 : Int32)), .val (.ref b3), .unset] [(.ref b3)])) rfl (by rw [hml]; rfl) (Steps.refl _) (argsL := []) (rest := []) (lenOf pd_1 rfl) rfl (by show 2 * 0 + _ ≤ _; exact Nat.le_of_eq rfl) (hb hby at_14) (fun _ _ => ⟨rfl, eq10, (by decide : 0 + 0 ≤ _), (by decide : 0 + 0 ≤ _)⟩)
    dsimp only [Pt.U, Pt.locs, Pt.cells, Pt.slots] at X11 l11 y11 z11 st11 hQ11
    subst l11 y11 z11
    obtain ⟨rfl, Nq11, eq11⟩ := hQ11
    have N11 := Fr.app N10 Nq11
    refine Runs.by (fun _ hr => st11.trans hr) ?_
    rw [show own_comp b5 b6 b3 = .null from by simp [own_comp, nE3_5, nE3_6]]
    show Runs p e below _ (T11.setTop (mkF m 17 #[.val (.int p0), .val (.int (3 : Int32)), .val (.ref b3), .unset] [.null]))
    refine Runs.by (fun _ hr => XS.astoreN X11.here hx rfl (hb hby at_17) rfl rfl (l' := #[.val (.int p0), .val (.int (3 : Int32)), .val (.ref b3), .val .null]) rfl hr) ?_
    show Runs p e below _ (T11.setTop (mkF m 18 #[.val (.int p0), .val (.int (3 : Int32)), .val (.ref b3), .val .null] []))
    refine Runs.by (fun _ hr => XS.aloadN X11.here hx rfl (hb hby at_18) rfl rfl hr) ?_
    show Runs p e below _ (T11.setTop (mkF m 19 #[.val (.int p0), .val (.int (3 : Int32)), .val (.ref b3), .val .null] [.null]))
    refine Runs.by (fun _ hr => XS.iloadN X11.here hx rfl (hb hby at_19) rfl  hr) ?_
    show Runs p e below _ (T11.setTop (mkF m 20 #[.val (.int p0), .val (.int (3 : Int32)), .val (.ref b3), .val .null] [(.int (3 : Int32)), .null]))
    obtain ⟨_, _, ⟨T12, L12, k12, n12⟩, -, X12, ⟨Lc12, hQ12, l12, y12, z12⟩, st12⟩ := Jvm.LawKit.callS X11 hx (y := (⟨"com/example/tollgate/tollgate/policy/StaticTableGetCompanionPinLaw", "expected", "(I)Lcom/example/tollgate/tollgate/policy/StaticTable;"⟩ : MethodName)) hown (mvT hZ (hw _ (List.mem_of_getElem? (i := 17) rfl))) (mvT hZ (hw _ (List.mem_of_getElem? (i := 18) rfl))) (mvT hZ (hw _ (List.mem_of_getElem? (i := 3) rfl))) (mvT hZ (hw _ (List.mem_of_getElem? (i := 19) rfl))) (by decide) (backOf (W := 1) (rm3 l Z a0 hw [] (3 : Int32) b5 b6 h0 n0 (Nat.le_trans Z0 K0.1) S5 S6) hZ (hw _ (List.mem_of_getElem? (i := 19) rfl)) (hw _ (List.mem_of_getElem? (i := 3) rfl)) (by decide) (by decide)) (g := (mkF m 20 #[.val (.int p0), .val (.int (3 : Int32)), .val (.ref b3), .val .null] [(.int (3 : Int32)), .null])) rfl (by rw [hml]; rfl) (argsL := [(.int (3 : Int32))]) (rest := [.null]) (lenOf pd_0 rfl) rfl (by show 2 * 0 + _ ≤ _; exact Nat.le_of_eq rfl) (hb hby at_20) (fun _ _ => ⟨rfl, eq11, (by decide : 0 + 0 ≤ _), (by decide : 0 + 0 ≤ _)⟩)
    dsimp only [Pt.U, Pt.locs, Pt.cells, Pt.slots] at X12 l12 y12 z12 st12 hQ12
    subst l12 y12 z12
    obtain ⟨rfl, Nq12, eq12⟩ := hQ12
    have N12 := Fr.app N11 Nq12
    refine Runs.by (fun t hr => st12 t hr) ?_
    rw [show own_exp b5 b6 (3 : Int32) = .null from rfl]
    show Runs p e below _ (T12.setTop (mkF m 23 #[.val (.int p0), .val (.int (3 : Int32)), .val (.ref b3), .val .null] [.null, .null]))
    refine Runs.by (fun _ hr => Jvm.RoadKit.acmp (g := (mkF m 23 #[.val (.int p0), .val (.int (3 : Int32)), .val (.ref b3), .val .null] [.null, .null])) X12 hx rfl rfl rfl (pc0 := 23) (pc' := 28) (same := true) rfl (hb hby at_23) rfl (decide_eq_true rfl) (by decide) (by decide) hr) ?_
    show Runs p e below _ (T12.setTop (mkF m 28 #[.val (.int p0), .val (.int (3 : Int32)), .val (.ref b3), .val .null] []))
    refine Runs.by (fun _ hr => XS.aloadN X12.here hx rfl (hb hby at_28) rfl rfl hr) ?_
    show Runs p e below _ (T12.setTop (mkF m 29 #[.val (.int p0), .val (.int (3 : Int32)), .val (.ref b3), .val .null] [.null]))
    refine Runs.by (fun _ hr => XS.ifnullYes X12.here hx rfl (pc0 := 29) (pc' := 42) rfl (hb hby at_29) rfl (by decide) (by decide) hr) ?_
    show Runs p e below _ (T12.setTop (mkF m 42 #[.val (.int p0), .val (.int (3 : Int32)), .val (.ref b3), .val .null] []))
    refine Runs.by (fun _ hr => XS.iconst X12.here hx rfl (hb hby at_42) hr) ?_
    show Runs p e below _ (T12.setTop (mkF m 43 #[.val (.int p0), .val (.int (3 : Int32)), .val (.ref b3), .val .null] [(.int (1 : Int32))]))
    refine Runs.ret X12 hx hrt hlk (Or.inl ⟨rfl, by simp, _, rfl⟩) (by rfl) (hb hby at_43) (by decide) (by decide) ?_
    rw [eq12]
    exact ⟨rfl, N12⟩
  · skip
    show Runs p e below _ (s₁.setTop (mkF m 8 #[.val (.int p0), .val (.int (4 : Int32)), .unset, .unset] []))
    refine Runs.by (fun _ hr => XS.iloadN X0.here hx rfl (hb hby at_8) rfl  hr) ?_
    show Runs p e below _ (s₁.setTop (mkF m 9 #[.val (.int p0), .val (.int (4 : Int32)), .unset, .unset] [(.int (4 : Int32))]))
    obtain ⟨_, _, ⟨T13, L13, k13, n13⟩, -, X13, ⟨Lc13, hQ13, l13, y13, z13⟩, st13⟩ := Jvm.LawKit.callS X0 hx (y := (⟨"com/example/tollgate/tollgate/policy/StaticTableGetCompanionPinLaw", "pick", "(I)Lcom/example/tollgate/tollgate/policy/StaticTable;"⟩ : MethodName)) hown (mvT hZ (hw _ (List.mem_of_getElem? (i := 1) rfl))) (mvT hZ (hw _ (List.mem_of_getElem? (i := 2) rfl))) (mvT hZ (hw _ (List.mem_of_getElem? (i := 3) rfl))) (mvT hZ (hw _ (List.mem_of_getElem? (i := 4) rfl))) (by decide) (backOf (W := 0) (rm1 l Z a0 hw [] (4 : Int32) b0 b1 b2 b3 b4 b5 b6 h0 n0 (Nat.le_trans Z0 K0.1) S0 S1 S2 S3 S4 S5 S6) hZ (hw _ (List.mem_of_getElem? (i := 4) rfl)) (hw _ (List.mem_of_getElem? (i := 3) rfl)) (by decide) (by decide)) (g := (mkF m 9 #[.val (.int p0), .val (.int (4 : Int32)), .unset, .unset] [(.int (4 : Int32))])) rfl (by rw [hml]; rfl) (argsL := [(.int (4 : Int32))]) (rest := []) (lenOf pd_0 rfl) rfl (by show 2 * 0 + _ ≤ _; exact Nat.le_of_eq rfl) (hb hby at_9) (fun _ _ => ⟨rfl, e0, (by decide : 0 + 0 ≤ _), (by decide : 0 + 0 ≤ _)⟩)
    dsimp only [Pt.U, Pt.locs, Pt.cells, Pt.slots] at X13 l13 y13 z13 st13 hQ13
    subst l13 y13 z13
    obtain ⟨rfl, Nq13, eq13⟩ := hQ13
    have N13 := Fr.app N0 Nq13
    refine Runs.by (fun t hr => st13 t hr) ?_
    rw [show own_pick b0 b1 b2 b3 b4 b5 b6 (4 : Int32) = b4 from rfl]
    show Runs p e below _ (T13.setTop (mkF m 12 #[.val (.int p0), .val (.int (4 : Int32)), .unset, .unset] [(.ref b4)]))
    refine Runs.by (fun _ hr => XS.astoreN X13.here hx rfl (hb hby at_12) rfl rfl (l' := #[.val (.int p0), .val (.int (4 : Int32)), .val (.ref b4), .unset]) rfl hr) ?_
    show Runs p e below _ (T13.setTop (mkF m 13 #[.val (.int p0), .val (.int (4 : Int32)), .val (.ref b4), .unset] []))
    refine Runs.by (fun _ hr => XS.aloadN X13.here hx rfl (hb hby at_13) rfl rfl hr) ?_
    show Runs p e below _ (T13.setTop (mkF m 14 #[.val (.int p0), .val (.int (4 : Int32)), .val (.ref b4), .unset] [(.ref b4)]))
    obtain ⟨cq14, kq14, q14a, q14b, q14c⟩ := isOf hZ eq13 E4
    obtain ⟨_, _, ⟨T14, L14, k14, n14⟩, -, X14, ⟨Lc14, hQ14, l14, y14, z14⟩, st14⟩ := X13.virtualBack hx (y := (⟨"com/example/tollgate/tollgate/policy/StaticTable", "getCompanion", "()Lcom/example/tollgate/tollgate/policy/StaticTable;"⟩ : MethodName)) (z := (⟨"com/example/tollgate/tollgate/policy/StaticTable", "getCompanion", "()Lcom/example/tollgate/tollgate/policy/StaticTable;"⟩ : MethodName)) hown (mvT hZ (hw _ (List.mem_of_getElem? (i := 8) rfl))) (mvT hZ (hw _ (List.mem_of_getElem? (i := 9) rfl))) (notFace_of_selects (args := #[]) (mvT hZ (hw _ (List.mem_of_getElem? (i := 11) rfl)))) (mvT hZ (hw _ (List.mem_of_getElem? (i := 11) rfl))) (mvT hZ (hw _ (List.mem_of_getElem? (i := 10) rfl))) (by decide) (backOf (W := 0) (rm2 l Z a0 hw [] b4 b5 b6 h0 n0 (Nat.le_trans Z0 K0.1) S5 S6) hZ (hw _ (List.mem_of_getElem? (i := 12) rfl)) (hw _ (List.mem_of_getElem? (i := 6) rfl)) (by decide) (by decide)) q14a q14c (g := (mkF m 14 #[.val (.int p0), .val (.int (4 : Int32)), .val (.ref b4), .unset] [(.ref b4)])) rfl (by rw [hml]; rfl) (Steps.refl _) (argsL := []) (rest := []) (lenOf pd_1 rfl) rfl (by show 2 * 0 + _ ≤ _; exact Nat.le_of_eq rfl) (hb hby at_14) (fun _ _ => ⟨rfl, eq13, (by decide : 0 + 0 ≤ _), (by decide : 0 + 0 ≤ _)⟩)
    dsimp only [Pt.U, Pt.locs, Pt.cells, Pt.slots] at X14 l14 y14 z14 st14 hQ14
    subst l14 y14 z14
    obtain ⟨rfl, Nq14, eq14⟩ := hQ14
    have N14 := Fr.app N13 Nq14
    refine Runs.by (fun _ hr => st14.trans hr) ?_
    rw [show own_comp b5 b6 b4 = .null from by simp [own_comp, nE4_5, nE4_6]]
    show Runs p e below _ (T14.setTop (mkF m 17 #[.val (.int p0), .val (.int (4 : Int32)), .val (.ref b4), .unset] [.null]))
    refine Runs.by (fun _ hr => XS.astoreN X14.here hx rfl (hb hby at_17) rfl rfl (l' := #[.val (.int p0), .val (.int (4 : Int32)), .val (.ref b4), .val .null]) rfl hr) ?_
    show Runs p e below _ (T14.setTop (mkF m 18 #[.val (.int p0), .val (.int (4 : Int32)), .val (.ref b4), .val .null] []))
    refine Runs.by (fun _ hr => XS.aloadN X14.here hx rfl (hb hby at_18) rfl rfl hr) ?_
    show Runs p e below _ (T14.setTop (mkF m 19 #[.val (.int p0), .val (.int (4 : Int32)), .val (.ref b4), .val .null] [.null]))
    refine Runs.by (fun _ hr => XS.iloadN X14.here hx rfl (hb hby at_19) rfl  hr) ?_
    show Runs p e below _ (T14.setTop (mkF m 20 #[.val (.int p0), .val (.int (4 : Int32)), .val (.ref b4), .val .null] [(.int (4 : Int32)), .null]))
    obtain ⟨_, _, ⟨T15, L15, k15, n15⟩, -, X15, ⟨Lc15, hQ15, l15, y15, z15⟩, st15⟩ := Jvm.LawKit.callS X14 hx (y := (⟨"com/example/tollgate/tollgate/policy/StaticTableGetCompanionPinLaw", "expected", "(I)Lcom/example/tollgate/tollgate/policy/StaticTable;"⟩ : MethodName)) hown (mvT hZ (hw _ (List.mem_of_getElem? (i := 17) rfl))) (mvT hZ (hw _ (List.mem_of_getElem? (i := 18) rfl))) (mvT hZ (hw _ (List.mem_of_getElem? (i := 3) rfl))) (mvT hZ (hw _ (List.mem_of_getElem? (i := 19) rfl))) (by decide) (backOf (W := 1) (rm3 l Z a0 hw [] (4 : Int32) b5 b6 h0 n0 (Nat.le_trans Z0 K0.1) S5 S6) hZ (hw _ (List.mem_of_getElem? (i := 19) rfl)) (hw _ (List.mem_of_getElem? (i := 3) rfl)) (by decide) (by decide)) (g := (mkF m 20 #[.val (.int p0), .val (.int (4 : Int32)), .val (.ref b4), .val .null] [(.int (4 : Int32)), .null])) rfl (by rw [hml]; rfl) (argsL := [(.int (4 : Int32))]) (rest := [.null]) (lenOf pd_0 rfl) rfl (by show 2 * 0 + _ ≤ _; exact Nat.le_of_eq rfl) (hb hby at_20) (fun _ _ => ⟨rfl, eq14, (by decide : 0 + 0 ≤ _), (by decide : 0 + 0 ≤ _)⟩)
    dsimp only [Pt.U, Pt.locs, Pt.cells, Pt.slots] at X15 l15 y15 z15 st15 hQ15
    subst l15 y15 z15
    obtain ⟨rfl, Nq15, eq15⟩ := hQ15
    have N15 := Fr.app N14 Nq15
    refine Runs.by (fun t hr => st15 t hr) ?_
    rw [show own_exp b5 b6 (4 : Int32) = .null from rfl]
    show Runs p e below _ (T15.setTop (mkF m 23 #[.val (.int p0), .val (.int (4 : Int32)), .val (.ref b4), .val .null] [.null, .null]))
    refine Runs.by (fun _ hr => Jvm.RoadKit.acmp (g := (mkF m 23 #[.val (.int p0), .val (.int (4 : Int32)), .val (.ref b4), .val .null] [.null, .null])) X15 hx rfl rfl rfl (pc0 := 23) (pc' := 28) (same := true) rfl (hb hby at_23) rfl (decide_eq_true rfl) (by decide) (by decide) hr) ?_
    show Runs p e below _ (T15.setTop (mkF m 28 #[.val (.int p0), .val (.int (4 : Int32)), .val (.ref b4), .val .null] []))
    refine Runs.by (fun _ hr => XS.aloadN X15.here hx rfl (hb hby at_28) rfl rfl hr) ?_
    show Runs p e below _ (T15.setTop (mkF m 29 #[.val (.int p0), .val (.int (4 : Int32)), .val (.ref b4), .val .null] [.null]))
    refine Runs.by (fun _ hr => XS.ifnullYes X15.here hx rfl (pc0 := 29) (pc' := 42) rfl (hb hby at_29) rfl (by decide) (by decide) hr) ?_
    show Runs p e below _ (T15.setTop (mkF m 42 #[.val (.int p0), .val (.int (4 : Int32)), .val (.ref b4), .val .null] []))
    refine Runs.by (fun _ hr => XS.iconst X15.here hx rfl (hb hby at_42) hr) ?_
    show Runs p e below _ (T15.setTop (mkF m 43 #[.val (.int p0), .val (.int (4 : Int32)), .val (.ref b4), .val .null] [(.int (1 : Int32))]))
    refine Runs.ret X15 hx hrt hlk (Or.inl ⟨rfl, by simp, _, rfl⟩) (by rfl) (hb hby at_43) (by decide) (by decide) ?_
    rw [eq15]
    exact ⟨rfl, N15⟩
  · skip
    show Runs p e below _ (s₁.setTop (mkF m 8 #[.val (.int p0), .val (.int (5 : Int32)), .unset, .unset] []))
    refine Runs.by (fun _ hr => XS.iloadN X0.here hx rfl (hb hby at_8) rfl  hr) ?_
    show Runs p e below _ (s₁.setTop (mkF m 9 #[.val (.int p0), .val (.int (5 : Int32)), .unset, .unset] [(.int (5 : Int32))]))
    obtain ⟨_, _, ⟨T16, L16, k16, n16⟩, -, X16, ⟨Lc16, hQ16, l16, y16, z16⟩, st16⟩ := Jvm.LawKit.callS X0 hx (y := (⟨"com/example/tollgate/tollgate/policy/StaticTableGetCompanionPinLaw", "pick", "(I)Lcom/example/tollgate/tollgate/policy/StaticTable;"⟩ : MethodName)) hown (mvT hZ (hw _ (List.mem_of_getElem? (i := 1) rfl))) (mvT hZ (hw _ (List.mem_of_getElem? (i := 2) rfl))) (mvT hZ (hw _ (List.mem_of_getElem? (i := 3) rfl))) (mvT hZ (hw _ (List.mem_of_getElem? (i := 4) rfl))) (by decide) (backOf (W := 0) (rm1 l Z a0 hw [] (5 : Int32) b0 b1 b2 b3 b4 b5 b6 h0 n0 (Nat.le_trans Z0 K0.1) S0 S1 S2 S3 S4 S5 S6) hZ (hw _ (List.mem_of_getElem? (i := 4) rfl)) (hw _ (List.mem_of_getElem? (i := 3) rfl)) (by decide) (by decide)) (g := (mkF m 9 #[.val (.int p0), .val (.int (5 : Int32)), .unset, .unset] [(.int (5 : Int32))])) rfl (by rw [hml]; rfl) (argsL := [(.int (5 : Int32))]) (rest := []) (lenOf pd_0 rfl) rfl (by show 2 * 0 + _ ≤ _; exact Nat.le_of_eq rfl) (hb hby at_9) (fun _ _ => ⟨rfl, e0, (by decide : 0 + 0 ≤ _), (by decide : 0 + 0 ≤ _)⟩)
    dsimp only [Pt.U, Pt.locs, Pt.cells, Pt.slots] at X16 l16 y16 z16 st16 hQ16
    subst l16 y16 z16
    obtain ⟨rfl, Nq16, eq16⟩ := hQ16
    have N16 := Fr.app N0 Nq16
    refine Runs.by (fun t hr => st16 t hr) ?_
    rw [show own_pick b0 b1 b2 b3 b4 b5 b6 (5 : Int32) = b5 from rfl]
    show Runs p e below _ (T16.setTop (mkF m 12 #[.val (.int p0), .val (.int (5 : Int32)), .unset, .unset] [(.ref b5)]))
    refine Runs.by (fun _ hr => XS.astoreN X16.here hx rfl (hb hby at_12) rfl rfl (l' := #[.val (.int p0), .val (.int (5 : Int32)), .val (.ref b5), .unset]) rfl hr) ?_
    show Runs p e below _ (T16.setTop (mkF m 13 #[.val (.int p0), .val (.int (5 : Int32)), .val (.ref b5), .unset] []))
    refine Runs.by (fun _ hr => XS.aloadN X16.here hx rfl (hb hby at_13) rfl rfl hr) ?_
    show Runs p e below _ (T16.setTop (mkF m 14 #[.val (.int p0), .val (.int (5 : Int32)), .val (.ref b5), .unset] [(.ref b5)]))
    obtain ⟨cq17, kq17, q17a, q17b, q17c⟩ := isOf hZ eq16 E5
    obtain ⟨_, _, ⟨T17, L17, k17, n17⟩, -, X17, ⟨Lc17, hQ17, l17, y17, z17⟩, st17⟩ := X16.virtualBack hx (y := (⟨"com/example/tollgate/tollgate/policy/StaticTable", "getCompanion", "()Lcom/example/tollgate/tollgate/policy/StaticTable;"⟩ : MethodName)) (z := (⟨"com/example/tollgate/tollgate/policy/StaticTable", "getCompanion", "()Lcom/example/tollgate/tollgate/policy/StaticTable;"⟩ : MethodName)) hown (mvT hZ (hw _ (List.mem_of_getElem? (i := 8) rfl))) (mvT hZ (hw _ (List.mem_of_getElem? (i := 9) rfl))) (notFace_of_selects (args := #[]) (mvT hZ (hw _ (List.mem_of_getElem? (i := 11) rfl)))) (mvT hZ (hw _ (List.mem_of_getElem? (i := 11) rfl))) (mvT hZ (hw _ (List.mem_of_getElem? (i := 10) rfl))) (by decide) (backOf (W := 0) (rm2 l Z a0 hw [] b5 b5 b6 h0 n0 (Nat.le_trans Z0 K0.1) S5 S6) hZ (hw _ (List.mem_of_getElem? (i := 12) rfl)) (hw _ (List.mem_of_getElem? (i := 6) rfl)) (by decide) (by decide)) q17a q17c (g := (mkF m 14 #[.val (.int p0), .val (.int (5 : Int32)), .val (.ref b5), .unset] [(.ref b5)])) rfl (by rw [hml]; rfl) (Steps.refl _) (argsL := []) (rest := []) (lenOf pd_1 rfl) rfl (by show 2 * 0 + _ ≤ _; exact Nat.le_of_eq rfl) (hb hby at_14) (fun _ _ => ⟨rfl, eq16, (by decide : 0 + 0 ≤ _), (by decide : 0 + 0 ≤ _)⟩)
    dsimp only [Pt.U, Pt.locs, Pt.cells, Pt.slots] at X17 l17 y17 z17 st17 hQ17
    subst l17 y17 z17
    obtain ⟨rfl, Nq17, eq17⟩ := hQ17
    have N17 := Fr.app N16 Nq17
    refine Runs.by (fun _ hr => st17.trans hr) ?_
    rw [show own_comp b5 b6 b5 = (.ref b6) from by simp [own_comp, nE5_6]]
    show Runs p e below _ (T17.setTop (mkF m 17 #[.val (.int p0), .val (.int (5 : Int32)), .val (.ref b5), .unset] [(.ref b6)]))
    refine Runs.by (fun _ hr => XS.astoreN X17.here hx rfl (hb hby at_17) rfl rfl (l' := #[.val (.int p0), .val (.int (5 : Int32)), .val (.ref b5), .val (.ref b6)]) rfl hr) ?_
    show Runs p e below _ (T17.setTop (mkF m 18 #[.val (.int p0), .val (.int (5 : Int32)), .val (.ref b5), .val (.ref b6)] []))
    refine Runs.by (fun _ hr => XS.aloadN X17.here hx rfl (hb hby at_18) rfl rfl hr) ?_
    show Runs p e below _ (T17.setTop (mkF m 19 #[.val (.int p0), .val (.int (5 : Int32)), .val (.ref b5), .val (.ref b6)] [(.ref b6)]))
    refine Runs.by (fun _ hr => XS.iloadN X17.here hx rfl (hb hby at_19) rfl  hr) ?_
    show Runs p e below _ (T17.setTop (mkF m 20 #[.val (.int p0), .val (.int (5 : Int32)), .val (.ref b5), .val (.ref b6)] [(.int (5 : Int32)), (.ref b6)]))
    obtain ⟨_, _, ⟨T18, L18, k18, n18⟩, -, X18, ⟨Lc18, hQ18, l18, y18, z18⟩, st18⟩ := Jvm.LawKit.callS X17 hx (y := (⟨"com/example/tollgate/tollgate/policy/StaticTableGetCompanionPinLaw", "expected", "(I)Lcom/example/tollgate/tollgate/policy/StaticTable;"⟩ : MethodName)) hown (mvT hZ (hw _ (List.mem_of_getElem? (i := 17) rfl))) (mvT hZ (hw _ (List.mem_of_getElem? (i := 18) rfl))) (mvT hZ (hw _ (List.mem_of_getElem? (i := 3) rfl))) (mvT hZ (hw _ (List.mem_of_getElem? (i := 19) rfl))) (by decide) (backOf (W := 1) (rm3 l Z a0 hw [] (5 : Int32) b5 b6 h0 n0 (Nat.le_trans Z0 K0.1) S5 S6) hZ (hw _ (List.mem_of_getElem? (i := 19) rfl)) (hw _ (List.mem_of_getElem? (i := 3) rfl)) (by decide) (by decide)) (g := (mkF m 20 #[.val (.int p0), .val (.int (5 : Int32)), .val (.ref b5), .val (.ref b6)] [(.int (5 : Int32)), (.ref b6)])) rfl (by rw [hml]; rfl) (argsL := [(.int (5 : Int32))]) (rest := [(.ref b6)]) (lenOf pd_0 rfl) rfl (by show 2 * 0 + _ ≤ _; exact Nat.le_of_eq rfl) (hb hby at_20) (fun _ _ => ⟨rfl, eq17, (by decide : 0 + 0 ≤ _), (by decide : 0 + 0 ≤ _)⟩)
    dsimp only [Pt.U, Pt.locs, Pt.cells, Pt.slots] at X18 l18 y18 z18 st18 hQ18
    subst l18 y18 z18
    obtain ⟨rfl, Nq18, eq18⟩ := hQ18
    have N18 := Fr.app N17 Nq18
    refine Runs.by (fun t hr => st18 t hr) ?_
    rw [show own_exp b5 b6 (5 : Int32) = (.ref b6) from rfl]
    show Runs p e below _ (T18.setTop (mkF m 23 #[.val (.int p0), .val (.int (5 : Int32)), .val (.ref b5), .val (.ref b6)] [(.ref b6), (.ref b6)]))
    refine Runs.by (fun _ hr => Jvm.RoadKit.acmp (g := (mkF m 23 #[.val (.int p0), .val (.int (5 : Int32)), .val (.ref b5), .val (.ref b6)] [(.ref b6), (.ref b6)])) X18 hx rfl rfl rfl (pc0 := 23) (pc' := 28) (same := true) rfl (hb hby at_23) rfl (decide_eq_true rfl) (by decide) (by decide) hr) ?_
    show Runs p e below _ (T18.setTop (mkF m 28 #[.val (.int p0), .val (.int (5 : Int32)), .val (.ref b5), .val (.ref b6)] []))
    refine Runs.by (fun _ hr => XS.aloadN X18.here hx rfl (hb hby at_28) rfl rfl hr) ?_
    show Runs p e below _ (T18.setTop (mkF m 29 #[.val (.int p0), .val (.int (5 : Int32)), .val (.ref b5), .val (.ref b6)] [(.ref b6)]))
    refine Runs.by (fun _ hr => XS.ifnullNo X18.here hx rfl (hb hby at_29) rfl hr) ?_
    show Runs p e below _ (T18.setTop (mkF m 32 #[.val (.int p0), .val (.int (5 : Int32)), .val (.ref b5), .val (.ref b6)] []))
    refine Runs.by (fun _ hr => XS.aloadN X18.here hx rfl (hb hby at_32) rfl rfl hr) ?_
    show Runs p e below _ (T18.setTop (mkF m 33 #[.val (.int p0), .val (.int (5 : Int32)), .val (.ref b5), .val (.ref b6)] [(.ref b6)]))
    obtain ⟨cq19, kq19, q19a, q19b, q19c⟩ := isOf hZ eq18 E6
    obtain ⟨_, _, ⟨T19, L19, k19, n19⟩, -, X19, ⟨Lc19, hQ19, l19, y19, z19⟩, st19⟩ := X18.virtualBack hx (y := (⟨"com/example/tollgate/tollgate/policy/StaticTable", "getCompanion", "()Lcom/example/tollgate/tollgate/policy/StaticTable;"⟩ : MethodName)) (z := (⟨"com/example/tollgate/tollgate/policy/StaticTable", "getCompanion", "()Lcom/example/tollgate/tollgate/policy/StaticTable;"⟩ : MethodName)) hown (mvT hZ (hw _ (List.mem_of_getElem? (i := 8) rfl))) (mvT hZ (hw _ (List.mem_of_getElem? (i := 9) rfl))) (notFace_of_selects (args := #[]) (mvT hZ (hw _ (List.mem_of_getElem? (i := 11) rfl)))) (mvT hZ (hw _ (List.mem_of_getElem? (i := 11) rfl))) (mvT hZ (hw _ (List.mem_of_getElem? (i := 10) rfl))) (by decide) (backOf (W := 0) (rm2 l Z a0 hw [] b6 b5 b6 h0 n0 (Nat.le_trans Z0 K0.1) S5 S6) hZ (hw _ (List.mem_of_getElem? (i := 12) rfl)) (hw _ (List.mem_of_getElem? (i := 6) rfl)) (by decide) (by decide)) q19a q19c (g := (mkF m 33 #[.val (.int p0), .val (.int (5 : Int32)), .val (.ref b5), .val (.ref b6)] [(.ref b6)])) rfl (by rw [hml]; rfl) (Steps.refl _) (argsL := []) (rest := []) (lenOf pd_1 rfl) rfl (by show 2 * 0 + _ ≤ _; exact Nat.le_of_eq rfl) (hb hby at_33) (fun _ _ => ⟨rfl, eq18, (by decide : 0 + 0 ≤ _), (by decide : 0 + 0 ≤ _)⟩)
    dsimp only [Pt.U, Pt.locs, Pt.cells, Pt.slots] at X19 l19 y19 z19 st19 hQ19
    subst l19 y19 z19
    obtain ⟨rfl, Nq19, eq19⟩ := hQ19
    have N19 := Fr.app N18 Nq19
    refine Runs.by (fun _ hr => st19.trans hr) ?_
    rw [show own_comp b5 b6 b6 = (.ref b5) from by simp [own_comp, (Ne.symm nE5_6)]]
    show Runs p e below _ (T19.setTop (mkF m 36 #[.val (.int p0), .val (.int (5 : Int32)), .val (.ref b5), .val (.ref b6)] [(.ref b5)]))
    refine Runs.by (fun _ hr => XS.aloadN X19.here hx rfl (hb hby at_36) rfl rfl hr) ?_
    show Runs p e below _ (T19.setTop (mkF m 37 #[.val (.int p0), .val (.int (5 : Int32)), .val (.ref b5), .val (.ref b6)] [(.ref b5), (.ref b5)]))
    refine Runs.by (fun _ hr => Jvm.RoadKit.acmp (g := (mkF m 37 #[.val (.int p0), .val (.int (5 : Int32)), .val (.ref b5), .val (.ref b6)] [(.ref b5), (.ref b5)])) X19 hx rfl rfl rfl (pc0 := 37) (pc' := 42) (same := true) rfl (hb hby at_37) rfl (decide_eq_true rfl) (by decide) (by decide) hr) ?_
    show Runs p e below _ (T19.setTop (mkF m 42 #[.val (.int p0), .val (.int (5 : Int32)), .val (.ref b5), .val (.ref b6)] []))
    refine Runs.by (fun _ hr => XS.iconst X19.here hx rfl (hb hby at_42) hr) ?_
    show Runs p e below _ (T19.setTop (mkF m 43 #[.val (.int p0), .val (.int (5 : Int32)), .val (.ref b5), .val (.ref b6)] [(.int (1 : Int32))]))
    refine Runs.ret X19 hx hrt hlk (Or.inl ⟨rfl, by simp, _, rfl⟩) (by rfl) (hb hby at_43) (by decide) (by decide) ?_
    rw [eq19]
    exact ⟨rfl, N19⟩
  · skip
    show Runs p e below _ (s₁.setTop (mkF m 8 #[.val (.int p0), .val (.int (6 : Int32)), .unset, .unset] []))
    refine Runs.by (fun _ hr => XS.iloadN X0.here hx rfl (hb hby at_8) rfl  hr) ?_
    show Runs p e below _ (s₁.setTop (mkF m 9 #[.val (.int p0), .val (.int (6 : Int32)), .unset, .unset] [(.int (6 : Int32))]))
    obtain ⟨_, _, ⟨T20, L20, k20, n20⟩, -, X20, ⟨Lc20, hQ20, l20, y20, z20⟩, st20⟩ := Jvm.LawKit.callS X0 hx (y := (⟨"com/example/tollgate/tollgate/policy/StaticTableGetCompanionPinLaw", "pick", "(I)Lcom/example/tollgate/tollgate/policy/StaticTable;"⟩ : MethodName)) hown (mvT hZ (hw _ (List.mem_of_getElem? (i := 1) rfl))) (mvT hZ (hw _ (List.mem_of_getElem? (i := 2) rfl))) (mvT hZ (hw _ (List.mem_of_getElem? (i := 3) rfl))) (mvT hZ (hw _ (List.mem_of_getElem? (i := 4) rfl))) (by decide) (backOf (W := 0) (rm1 l Z a0 hw [] (6 : Int32) b0 b1 b2 b3 b4 b5 b6 h0 n0 (Nat.le_trans Z0 K0.1) S0 S1 S2 S3 S4 S5 S6) hZ (hw _ (List.mem_of_getElem? (i := 4) rfl)) (hw _ (List.mem_of_getElem? (i := 3) rfl)) (by decide) (by decide)) (g := (mkF m 9 #[.val (.int p0), .val (.int (6 : Int32)), .unset, .unset] [(.int (6 : Int32))])) rfl (by rw [hml]; rfl) (argsL := [(.int (6 : Int32))]) (rest := []) (lenOf pd_0 rfl) rfl (by show 2 * 0 + _ ≤ _; exact Nat.le_of_eq rfl) (hb hby at_9) (fun _ _ => ⟨rfl, e0, (by decide : 0 + 0 ≤ _), (by decide : 0 + 0 ≤ _)⟩)
    dsimp only [Pt.U, Pt.locs, Pt.cells, Pt.slots] at X20 l20 y20 z20 st20 hQ20
    subst l20 y20 z20
    obtain ⟨rfl, Nq20, eq20⟩ := hQ20
    have N20 := Fr.app N0 Nq20
    refine Runs.by (fun t hr => st20 t hr) ?_
    rw [show own_pick b0 b1 b2 b3 b4 b5 b6 (6 : Int32) = b6 from rfl]
    show Runs p e below _ (T20.setTop (mkF m 12 #[.val (.int p0), .val (.int (6 : Int32)), .unset, .unset] [(.ref b6)]))
    refine Runs.by (fun _ hr => XS.astoreN X20.here hx rfl (hb hby at_12) rfl rfl (l' := #[.val (.int p0), .val (.int (6 : Int32)), .val (.ref b6), .unset]) rfl hr) ?_
    show Runs p e below _ (T20.setTop (mkF m 13 #[.val (.int p0), .val (.int (6 : Int32)), .val (.ref b6), .unset] []))
    refine Runs.by (fun _ hr => XS.aloadN X20.here hx rfl (hb hby at_13) rfl rfl hr) ?_
    show Runs p e below _ (T20.setTop (mkF m 14 #[.val (.int p0), .val (.int (6 : Int32)), .val (.ref b6), .unset] [(.ref b6)]))
    obtain ⟨cq21, kq21, q21a, q21b, q21c⟩ := isOf hZ eq20 E6
    obtain ⟨_, _, ⟨T21, L21, k21, n21⟩, -, X21, ⟨Lc21, hQ21, l21, y21, z21⟩, st21⟩ := X20.virtualBack hx (y := (⟨"com/example/tollgate/tollgate/policy/StaticTable", "getCompanion", "()Lcom/example/tollgate/tollgate/policy/StaticTable;"⟩ : MethodName)) (z := (⟨"com/example/tollgate/tollgate/policy/StaticTable", "getCompanion", "()Lcom/example/tollgate/tollgate/policy/StaticTable;"⟩ : MethodName)) hown (mvT hZ (hw _ (List.mem_of_getElem? (i := 8) rfl))) (mvT hZ (hw _ (List.mem_of_getElem? (i := 9) rfl))) (notFace_of_selects (args := #[]) (mvT hZ (hw _ (List.mem_of_getElem? (i := 11) rfl)))) (mvT hZ (hw _ (List.mem_of_getElem? (i := 11) rfl))) (mvT hZ (hw _ (List.mem_of_getElem? (i := 10) rfl))) (by decide) (backOf (W := 0) (rm2 l Z a0 hw [] b6 b5 b6 h0 n0 (Nat.le_trans Z0 K0.1) S5 S6) hZ (hw _ (List.mem_of_getElem? (i := 12) rfl)) (hw _ (List.mem_of_getElem? (i := 6) rfl)) (by decide) (by decide)) q21a q21c (g := (mkF m 14 #[.val (.int p0), .val (.int (6 : Int32)), .val (.ref b6), .unset] [(.ref b6)])) rfl (by rw [hml]; rfl) (Steps.refl _) (argsL := []) (rest := []) (lenOf pd_1 rfl) rfl (by show 2 * 0 + _ ≤ _; exact Nat.le_of_eq rfl) (hb hby at_14) (fun _ _ => ⟨rfl, eq20, (by decide : 0 + 0 ≤ _), (by decide : 0 + 0 ≤ _)⟩)
    dsimp only [Pt.U, Pt.locs, Pt.cells, Pt.slots] at X21 l21 y21 z21 st21 hQ21
    subst l21 y21 z21
    obtain ⟨rfl, Nq21, eq21⟩ := hQ21
    have N21 := Fr.app N20 Nq21
    refine Runs.by (fun _ hr => st21.trans hr) ?_
    rw [show own_comp b5 b6 b6 = (.ref b5) from by simp [own_comp, (Ne.symm nE5_6)]]
    show Runs p e below _ (T21.setTop (mkF m 17 #[.val (.int p0), .val (.int (6 : Int32)), .val (.ref b6), .unset] [(.ref b5)]))
    refine Runs.by (fun _ hr => XS.astoreN X21.here hx rfl (hb hby at_17) rfl rfl (l' := #[.val (.int p0), .val (.int (6 : Int32)), .val (.ref b6), .val (.ref b5)]) rfl hr) ?_
    show Runs p e below _ (T21.setTop (mkF m 18 #[.val (.int p0), .val (.int (6 : Int32)), .val (.ref b6), .val (.ref b5)] []))
    refine Runs.by (fun _ hr => XS.aloadN X21.here hx rfl (hb hby at_18) rfl rfl hr) ?_
    show Runs p e below _ (T21.setTop (mkF m 19 #[.val (.int p0), .val (.int (6 : Int32)), .val (.ref b6), .val (.ref b5)] [(.ref b5)]))
    refine Runs.by (fun _ hr => XS.iloadN X21.here hx rfl (hb hby at_19) rfl  hr) ?_
    show Runs p e below _ (T21.setTop (mkF m 20 #[.val (.int p0), .val (.int (6 : Int32)), .val (.ref b6), .val (.ref b5)] [(.int (6 : Int32)), (.ref b5)]))
    obtain ⟨_, _, ⟨T22, L22, k22, n22⟩, -, X22, ⟨Lc22, hQ22, l22, y22, z22⟩, st22⟩ := Jvm.LawKit.callS X21 hx (y := (⟨"com/example/tollgate/tollgate/policy/StaticTableGetCompanionPinLaw", "expected", "(I)Lcom/example/tollgate/tollgate/policy/StaticTable;"⟩ : MethodName)) hown (mvT hZ (hw _ (List.mem_of_getElem? (i := 17) rfl))) (mvT hZ (hw _ (List.mem_of_getElem? (i := 18) rfl))) (mvT hZ (hw _ (List.mem_of_getElem? (i := 3) rfl))) (mvT hZ (hw _ (List.mem_of_getElem? (i := 19) rfl))) (by decide) (backOf (W := 1) (rm3 l Z a0 hw [] (6 : Int32) b5 b6 h0 n0 (Nat.le_trans Z0 K0.1) S5 S6) hZ (hw _ (List.mem_of_getElem? (i := 19) rfl)) (hw _ (List.mem_of_getElem? (i := 3) rfl)) (by decide) (by decide)) (g := (mkF m 20 #[.val (.int p0), .val (.int (6 : Int32)), .val (.ref b6), .val (.ref b5)] [(.int (6 : Int32)), (.ref b5)])) rfl (by rw [hml]; rfl) (argsL := [(.int (6 : Int32))]) (rest := [(.ref b5)]) (lenOf pd_0 rfl) rfl (by show 2 * 0 + _ ≤ _; exact Nat.le_of_eq rfl) (hb hby at_20) (fun _ _ => ⟨rfl, eq21, (by decide : 0 + 0 ≤ _), (by decide : 0 + 0 ≤ _)⟩)
    dsimp only [Pt.U, Pt.locs, Pt.cells, Pt.slots] at X22 l22 y22 z22 st22 hQ22
    subst l22 y22 z22
    obtain ⟨rfl, Nq22, eq22⟩ := hQ22
    have N22 := Fr.app N21 Nq22
    refine Runs.by (fun t hr => st22 t hr) ?_
    rw [show own_exp b5 b6 (6 : Int32) = (.ref b5) from rfl]
    show Runs p e below _ (T22.setTop (mkF m 23 #[.val (.int p0), .val (.int (6 : Int32)), .val (.ref b6), .val (.ref b5)] [(.ref b5), (.ref b5)]))
    refine Runs.by (fun _ hr => Jvm.RoadKit.acmp (g := (mkF m 23 #[.val (.int p0), .val (.int (6 : Int32)), .val (.ref b6), .val (.ref b5)] [(.ref b5), (.ref b5)])) X22 hx rfl rfl rfl (pc0 := 23) (pc' := 28) (same := true) rfl (hb hby at_23) rfl (decide_eq_true rfl) (by decide) (by decide) hr) ?_
    show Runs p e below _ (T22.setTop (mkF m 28 #[.val (.int p0), .val (.int (6 : Int32)), .val (.ref b6), .val (.ref b5)] []))
    refine Runs.by (fun _ hr => XS.aloadN X22.here hx rfl (hb hby at_28) rfl rfl hr) ?_
    show Runs p e below _ (T22.setTop (mkF m 29 #[.val (.int p0), .val (.int (6 : Int32)), .val (.ref b6), .val (.ref b5)] [(.ref b5)]))
    refine Runs.by (fun _ hr => XS.ifnullNo X22.here hx rfl (hb hby at_29) rfl hr) ?_
    show Runs p e below _ (T22.setTop (mkF m 32 #[.val (.int p0), .val (.int (6 : Int32)), .val (.ref b6), .val (.ref b5)] []))
    refine Runs.by (fun _ hr => XS.aloadN X22.here hx rfl (hb hby at_32) rfl rfl hr) ?_
    show Runs p e below _ (T22.setTop (mkF m 33 #[.val (.int p0), .val (.int (6 : Int32)), .val (.ref b6), .val (.ref b5)] [(.ref b5)]))
    obtain ⟨cq23, kq23, q23a, q23b, q23c⟩ := isOf hZ eq22 E5
    obtain ⟨_, _, ⟨T23, L23, k23, n23⟩, -, X23, ⟨Lc23, hQ23, l23, y23, z23⟩, st23⟩ := X22.virtualBack hx (y := (⟨"com/example/tollgate/tollgate/policy/StaticTable", "getCompanion", "()Lcom/example/tollgate/tollgate/policy/StaticTable;"⟩ : MethodName)) (z := (⟨"com/example/tollgate/tollgate/policy/StaticTable", "getCompanion", "()Lcom/example/tollgate/tollgate/policy/StaticTable;"⟩ : MethodName)) hown (mvT hZ (hw _ (List.mem_of_getElem? (i := 8) rfl))) (mvT hZ (hw _ (List.mem_of_getElem? (i := 9) rfl))) (notFace_of_selects (args := #[]) (mvT hZ (hw _ (List.mem_of_getElem? (i := 11) rfl)))) (mvT hZ (hw _ (List.mem_of_getElem? (i := 11) rfl))) (mvT hZ (hw _ (List.mem_of_getElem? (i := 10) rfl))) (by decide) (backOf (W := 0) (rm2 l Z a0 hw [] b5 b5 b6 h0 n0 (Nat.le_trans Z0 K0.1) S5 S6) hZ (hw _ (List.mem_of_getElem? (i := 12) rfl)) (hw _ (List.mem_of_getElem? (i := 6) rfl)) (by decide) (by decide)) q23a q23c (g := (mkF m 33 #[.val (.int p0), .val (.int (6 : Int32)), .val (.ref b6), .val (.ref b5)] [(.ref b5)])) rfl (by rw [hml]; rfl) (Steps.refl _) (argsL := []) (rest := []) (lenOf pd_1 rfl) rfl (by show 2 * 0 + _ ≤ _; exact Nat.le_of_eq rfl) (hb hby at_33) (fun _ _ => ⟨rfl, eq22, (by decide : 0 + 0 ≤ _), (by decide : 0 + 0 ≤ _)⟩)
    dsimp only [Pt.U, Pt.locs, Pt.cells, Pt.slots] at X23 l23 y23 z23 st23 hQ23
    subst l23 y23 z23
    obtain ⟨rfl, Nq23, eq23⟩ := hQ23
    have N23 := Fr.app N22 Nq23
    refine Runs.by (fun _ hr => st23.trans hr) ?_
    rw [show own_comp b5 b6 b5 = (.ref b6) from by simp [own_comp, nE5_6]]
    show Runs p e below _ (T23.setTop (mkF m 36 #[.val (.int p0), .val (.int (6 : Int32)), .val (.ref b6), .val (.ref b5)] [(.ref b6)]))
    refine Runs.by (fun _ hr => XS.aloadN X23.here hx rfl (hb hby at_36) rfl rfl hr) ?_
    show Runs p e below _ (T23.setTop (mkF m 37 #[.val (.int p0), .val (.int (6 : Int32)), .val (.ref b6), .val (.ref b5)] [(.ref b6), (.ref b6)]))
    refine Runs.by (fun _ hr => Jvm.RoadKit.acmp (g := (mkF m 37 #[.val (.int p0), .val (.int (6 : Int32)), .val (.ref b6), .val (.ref b5)] [(.ref b6), (.ref b6)])) X23 hx rfl rfl rfl (pc0 := 37) (pc' := 42) (same := true) rfl (hb hby at_37) rfl (decide_eq_true rfl) (by decide) (by decide) hr) ?_
    show Runs p e below _ (T23.setTop (mkF m 42 #[.val (.int p0), .val (.int (6 : Int32)), .val (.ref b6), .val (.ref b5)] []))
    refine Runs.by (fun _ hr => XS.iconst X23.here hx rfl (hb hby at_42) hr) ?_
    show Runs p e below _ (T23.setTop (mkF m 43 #[.val (.int p0), .val (.int (6 : Int32)), .val (.ref b6), .val (.ref b5)] [(.int (1 : Int32))]))
    refine Runs.ret X23 hx hrt hlk (Or.inl ⟨rfl, by simp, _, rfl⟩) (by rfl) (hb hby at_43) (by decide) (by decide) ?_
    rw [eq23]
    exact ⟨rfl, N23⟩
theorem own_eq_int {t : Term} {n : Int32} {args : Array Value} {s : State} (h : (Cond.eq t (.int n)).value args s none s [] = some true) : t.eval args s none [] s = some (.int n) := by
  obtain ⟨x, y, h1, h2, h3, h4⟩ := cmp_v (Or.inl h)
  have e2 : y = .int n := (Option.some.inj (h2.symm.trans (Term.int_eval n)))
  subst e2
  obtain ⟨z, rfl⟩ := h4
  simp [Cond.value, h1, h2] at h
  rw [h1, h]
set_option maxRecDepth 65536 in
set_option maxHeartbeats 40000000 in
theorem comes_1 {Post : Tables → Env → Array Value → State → Outcome → State → Prop} (hpost : ∀ tb e args s v u, (limb_1_1.after args s (.returned v) u = true ∧ limb_1_2.after args s (.returned v) u = true ∧ True) → FrameEnd s (.returned v) u (Jvm.fieldLocs frame_1_writes args s ++ Jvm.arrayLocs frame_1_arrays args s ++ Jvm.staticLocs frame_1_statics s) 0 0 → Post tb e args s (.returned v) u) :
    ArmFor flags0 classFile x code maxLocals ret World_1 tables_1 room_1 Calls_1 rest_1 Pre_1 Post := by
  intro l hfl _ _ p e ha hc hk s m args below hf hA hF happ hP
  obtain ⟨hcalls, hrest, hpre⟩ := hP
  obtain ⟨-, -, -, hnamed, -, -, -, hat⟩ := (Spec.applies_iff hf).mp happ
  obtain ⟨hg, hn⟩ := and_e (Cond.before_iff.mp (show (Jvm.Cond.and given_1 narrow_1).before args s = true from hpre))
  obtain ⟨g1, g2⟩ := and_e hg
  obtain ⟨g3, g4⟩ := and_e hn
  obtain ⟨g5, g6⟩ := and_e g4
  obtain ⟨g7, g8⟩ := and_e g6
  obtain ⟨g9, g10⟩ := and_e g8
  obtain ⟨g11, g12⟩ := and_e g10
  obtain ⟨g13, g14⟩ := and_e g12
  obtain ⟨g15, g16⟩ := and_e g14
  obtain ⟨g17, g18⟩ := and_e g16
  obtain ⟨g19, g20⟩ := and_e g18
  obtain ⟨g21, g22⟩ := and_e g20
  obtain ⟨g23, g24⟩ := and_e g22
  obtain ⟨g25, g26⟩ := and_e g24
  obtain ⟨g27, g28⟩ := and_e g26
  obtain ⟨w0, rfl⟩ : ∃ w0 : Value, args = #[w0] := by
    have hs : args.size = 1 := by simpa [Cond.value, given_1] using g1
    obtain ⟨L⟩ := args
    match L, hs with
    | [w0], _ => exact ⟨w0, rfl⟩
  have hw := fun d (hd : d ∈ tables_1) => atoms_spec (ws := Jvm.Cond.code x code maxLocals ret :: tables_1) hat d (List.mem_cons_of_mem _ hd)
  have hfit : Fit s := fun {y c} hc i hi => by
    obtain ⟨ha, rfl⟩ := Array.getElem?_eq_some_iff.mp hc
    have q := List.all_eq_true.mp ((Array.all_eq_true_iff_forall_mem.mp hF) _ (Array.getElem_mem ha)) i (List.mem_range.mpr hi)
    simpa [Array.getElem?_eq_getElem hi] using q
  obtain ⟨i0, ei0⟩ := is_v g2
  obtain rfl : w0 = (.int i0) := Option.some.inj ei0
  obtain ⟨b0, ev0⟩ := exa_v g3
  have E0 := exa_at ev0 g3
  have S0 := Sta.start ev0 (Or.inr ⟨hw _ (List.mem_of_getElem? (i := 6) rfl), hw _ (List.mem_of_getElem? (i := 7) rfl)⟩)
  obtain ⟨b5, ev5⟩ := exa_v g5
  have E5 := exa_at ev5 g5
  have S5 := Sta.start ev5 (Or.inr ⟨hw _ (List.mem_of_getElem? (i := 6) rfl), hw _ (List.mem_of_getElem? (i := 14) rfl)⟩)
  obtain ⟨b6, ev6⟩ := exa_v g11
  have E6 := exa_at ev6 g11
  have S6 := Sta.start ev6 (Or.inr ⟨hw _ (List.mem_of_getElem? (i := 6) rfl), hw _ (List.mem_of_getElem? (i := 16) rfl)⟩)
  obtain ⟨b3, ev3⟩ := exa_v g15
  have E3 := exa_at ev3 g15
  have S3 := Sta.start ev3 (Or.inr ⟨hw _ (List.mem_of_getElem? (i := 6) rfl), hw _ (List.mem_of_getElem? (i := 21) rfl)⟩)
  obtain ⟨b4, ev4⟩ := exa_v g19
  have E4 := exa_at ev4 g19
  have S4 := Sta.start ev4 (Or.inr ⟨hw _ (List.mem_of_getElem? (i := 6) rfl), hw _ (List.mem_of_getElem? (i := 25) rfl)⟩)
  obtain ⟨b2, ev2⟩ := exa_v g23
  have E2 := exa_at ev2 g23
  have S2 := Sta.start ev2 (Or.inr ⟨hw _ (List.mem_of_getElem? (i := 6) rfl), hw _ (List.mem_of_getElem? (i := 27) rfl)⟩)
  obtain ⟨b1, ev1⟩ := exa_v g27
  have E1 := exa_at ev1 g27
  have S1 := Sta.start ev1 (Or.inr ⟨hw _ (List.mem_of_getElem? (i := 6) rfl), hw _ (List.mem_of_getElem? (i := 29) rfl)⟩)
  have F0 := Fld.start ((fld_at ev0).symm.trans (own_eq_int g7))
  have F5 := Fld.start ((fld_at ev5).symm.trans (own_eq_int g9))
  have F6 := Fld.start ((fld_at ev6).symm.trans (own_eq_int g13))
  have F3 := Fld.start ((fld_at ev3).symm.trans (own_eq_int g17))
  have F4 := Fld.start ((fld_at ev4).symm.trans (own_eq_int g21))
  have F2 := Fld.start ((fld_at ev2).symm.trans (own_eq_int g25))
  have F1 := Fld.start ((fld_at ev1).symm.trans (own_eq_int g28))
  obtain ⟨n, o, h1, h2, h3, _, L, rfl, ⟨rfl, N⟩, hq⟩ := rm0 l s _ hw tables_1 i0 b0 b1 b2 b3 b4 b5 b6 s.heap s.heap.size (Nat.le_refl _) S0 S1 S2 S3 S4 S5 S6 E0 E1 E2 E3 E4 E5 E6 (F0.ne F5 (by simp)) (F1.ne F5 (by simp)) (F2.ne F5 (by simp)) (F3.ne F5 (by simp)) (F4.ne F5 (by simp)) (F0.ne F6 (by simp)) (F1.ne F6 (by simp)) (F2.ne F6 (by simp)) (F3.ne F6 (by simp)) (F4.ne F6 (by simp)) (F5.ne F6 (by simp))  p e ha hc hk s m _ below hf ((Spec.applies_iff_loose hf).mp happ).1 ⟨rfl, State.Warmed39.refl s, rfl⟩ trivial
  refine ⟨n, _, h1, h2, h3, hpost _ _ _ _ _ _ ⟨Cond.after_iff.mpr rfl, Cond.after_iff.mpr (eq_i res_at (Term.int_eval (1)) rfl), trivial⟩ ⟨hq.1, hq.2.1, (hq.2.2.sift fun y hy => Or.inr (N y hy)).mono (by decide) (by decide)⟩⟩
theorem main_1_1 : Claimed_1_1 := comes_1 fun _ _ _ _ _ _ h hF => ⟨h.1, hF⟩
theorem main_1_2 : Claimed_1_2 := comes_1 fun _ _ _ _ _ _ h hF => ⟨h.2.1, hF⟩
end Jvm.Pilot.@@N@@
namespace Jvm.Pilot.@@N@@
open Jvm Jvm.ClassFile Sem Op Lib Jvm.Free Jvm.Stand Jvm.Pilot.@@N@@.Jvm.D
/-! MADE BY PROGRAM (witnessworld.py) out of the Statement's table words and the real class files: 12 classes; the members and pool entries that the words name. The judged class is class 1, her method 3. -/
namespace start1
open Jvm.ClassFile
def u (s : String) : CpInfo := .utf8 (stringToUtf16 s)
/-- a pool by its gaps: so many unusable entries, then the entry; so many at the end -/
def gap : Nat → List CpInfo → List CpInfo
  | 0, r => r
  | n + 1, r => .unusable :: gap n r
def poolList (es : List (Nat × CpInfo)) (last : Nat) : List CpInfo := es.foldr (fun e r => gap e.1 (e.2 :: r)) (gap last [])
def pool (es : List (Nat × CpInfo)) (last : Nat) : Array CpInfo := ⟨poolList es last⟩
def fileOf (pool : Array CpInfo) (this : Nat) (attrs : Array Attribute := #[]) (ms : Array MethodInfo := #[]) (fl : Nat := 33) (sup : Nat := 0) (ifs : Array Nat := #[]) (fds : Array FieldInfo := #[]) : ClassFile where
  minorVersion := 0
  majorVersion := 65
  constantPool := pool
  accessFlags := fl
  thisClass := this
  superClass := sup
  interfaces := ifs
  fields := fds
  methods := ms
  attributes := attrs
def plain (name : String) (sup : Option ClassId) : Class where
  name := name
  kind := .ordinary
  loader := none
  accessFlags := 33
  super := sup
  interfaces := #[]
  cf := none
  fields := #[]
  methods := #[]
  instanceTypes := #[]
  staticTypes := #[]
  resolved := #[]
  callSites := []
  init := .initialized
  statics := none
  mirror := none

def pool0 : Array CpInfo := pool [(5, u "<init>"), (0, u "()V"), (1, .class_ 10), (1, u "java/lang/Object")] 113

def k0m0 : Method := { name := "<init>", desc := "()V", sig := { parameters := [], returnType := none }, accessFlags := 1, code := none }
/-- java/lang/Object -/
def k0 : Class := { plain "java/lang/Object" none with
  accessFlags := 33
  interfaces := #[]
  cf := some (fileOf pool0 8 #[] #[{ accessFlags := 1, nameIndex := 5, descriptorIndex := 6, attributes := #[] }] 33 0 #[] #[])
  fields := #[]
  methods := #[k0m0]
  instanceTypes := #[]
  staticTypes := #[]
  resolved := Array.replicate 124 none
  statics := none }

def pool1 : Array CpInfo := pool [(2, .class_ 4), (1, u "java/lang/Object"), (0, u "<init>"), (0, u "()V"), (0, .fieldref 8 9), (0, .class_ 10), (0, .nameAndType 11 12), (0, u "com/example/tollgate/tollgate/policy/StaticTable"), (0, u "PLAYS"), (0, u "Lcom/example/tollgate/tollgate/policy/StaticTable;"), (0, .fieldref 8 14), (0, .nameAndType 15 12), (0, u "PERMISSIONS"), (0, .fieldref 8 17), (0, .nameAndType 18 12), (0, u "PROHIBITIONS"), (0, .fieldref 8 20), (0, .nameAndType 21 12), (0, u "ROLE_PARENTS"), (0, .fieldref 8 23), (0, .nameAndType 24 12), (0, u "ORG_PARENTS"), (0, .fieldref 8 26), (0, .nameAndType 27 12), (0, u "SSD_CONSTRAINTS"), (0, .fieldref 8 29), (0, .nameAndType 30 12), (0, u "SSD_MEMBERS"), (0, .integer 2147483647), (0, .methodref 33 34), (0, .class_ 35), (0, .nameAndType 36 37), (0, u "com/example/tollgate/tollgate/policy/StaticTableGetCompanionPinLaw"), (0, u "pick"), (0, u "(I)Lcom/example/tollgate/tollgate/policy/StaticTable;"), (0, .methodref 8 39), (0, .nameAndType 40 41), (0, u "getCompanion"), (0, u "()Lcom/example/tollgate/tollgate/policy/StaticTable;"), (0, .methodref 33 43), (0, .nameAndType 44 37), (0, u "expected"), (3, u "law"), (0, u "(I)Z")] 2

def k1m0 : Method := { name := "<init>", desc := "()V", sig := { parameters := [], returnType := none }, accessFlags := 2, code := none }
def k1c1 : Code := { maxStack := 2, maxLocals := 1, code := method_2_code, exceptionTable := #[], attributes := #[] }
def k1m1 : Method := { name := "pick", desc := "(I)Lcom/example/tollgate/tollgate/policy/StaticTable;", sig := { parameters := [.int], returnType := some (.object "com/example/tollgate/tollgate/policy/StaticTable") }, accessFlags := 10, code := some k1c1 }
def k1c2 : Code := { maxStack := 2, maxLocals := 1, code := method_3_code, exceptionTable := #[], attributes := #[] }
def k1m2 : Method := { name := "expected", desc := "(I)Lcom/example/tollgate/tollgate/policy/StaticTable;", sig := { parameters := [.int], returnType := some (.object "com/example/tollgate/tollgate/policy/StaticTable") }, accessFlags := 10, code := some k1c2 }
def k1c3 : Code := { maxStack := 2, maxLocals := 4, code := code, exceptionTable := #[], attributes := #[] }
def k1m3 : Method := { name := "law", desc := "(I)Z", sig := { parameters := [.int], returnType := some .boolean }, accessFlags := 9, code := some k1c3 }
/-- com/example/tollgate/tollgate/policy/StaticTableGetCompanionPinLaw -/
def k1 : Class := { plain "com/example/tollgate/tollgate/policy/StaticTableGetCompanionPinLaw" (some 0) with
  accessFlags := 49
  interfaces := #[]
  cf := some (fileOf pool1 33 #[] #[{ accessFlags := 2, nameIndex := 5, descriptorIndex := 6, attributes := #[] }, { accessFlags := 10, nameIndex := 36, descriptorIndex := 37, attributes := #[] }, { accessFlags := 10, nameIndex := 44, descriptorIndex := 37, attributes := #[] }, { accessFlags := 9, nameIndex := 48, descriptorIndex := 49, attributes := #[] }] 49 2 #[] #[])
  fields := #[]
  methods := #[k1m0, k1m1, k1m2, k1m3]
  instanceTypes := #[]
  staticTypes := #[]
  resolved := Array.replicate 52 none
  statics := none }

def pool2 : Array CpInfo := pool [(1, .class_ 2), (0, u "java/lang/constant/Constable"), (0, .class_ 4), (0, u "java/lang/Object")] 6

/-- java/lang/constant/Constable -/
def k2 : Class := { plain "java/lang/constant/Constable" (some 0) with
  accessFlags := 1537
  interfaces := #[]
  cf := some (fileOf pool2 1 #[] #[] 1537 3 #[] #[])
  fields := #[]
  methods := #[]
  instanceTypes := #[]
  staticTypes := #[]
  resolved := Array.replicate 11 none
  statics := none }

def pool3 : Array CpInfo := pool [(1, .class_ 2), (0, u "java/lang/Comparable"), (0, .class_ 4), (0, u "java/lang/Object")] 7

/-- java/lang/Comparable -/
def k3 : Class := { plain "java/lang/Comparable" (some 0) with
  accessFlags := 1537
  interfaces := #[]
  cf := some (fileOf pool3 1 #[] #[] 1537 3 #[] #[])
  fields := #[]
  methods := #[]
  instanceTypes := #[]
  staticTypes := #[]
  resolved := Array.replicate 12 none
  statics := none }

def pool4 : Array CpInfo := pool [(1, .class_ 2), (0, u "java/io/Serializable"), (0, .class_ 4), (0, u "java/lang/Object")] 2

/-- java/io/Serializable -/
def k4 : Class := { plain "java/io/Serializable" (some 0) with
  accessFlags := 1537
  interfaces := #[]
  cf := some (fileOf pool4 1 #[] #[] 1537 3 #[] #[])
  fields := #[]
  methods := #[]
  instanceTypes := #[]
  staticTypes := #[]
  resolved := Array.replicate 7 none
  statics := none }

def pool5 : Array CpInfo := pool [(2, .class_ 4), (1, u "java/lang/Enum"), (0, u "name"), (0, u "Ljava/lang/String;"), (2, u "ordinal"), (0, u "I"), (1, .class_ 14), (1, u "java/lang/Object"), (4, u "hash"), (86, .class_ 108), (1, u "java/lang/Enum$EnumDesc"), (2, .class_ 112), (0, u "java/lang/constant/Constable"), (0, .class_ 114), (0, u "java/lang/Comparable"), (0, .class_ 116), (0, u "java/io/Serializable")] 87

/-- java/lang/Enum -/
def k5 : Class := { plain "java/lang/Enum" (some 0) with
  accessFlags := 1057
  interfaces := #[2, 3, 4]
  cf := some (fileOf pool5 2 #[.nestMembers #[106]] #[] 1057 12 #[111, 113, 115] #[{ accessFlags := 18, nameIndex := 5, descriptorIndex := 6, attributes := #[] }, { accessFlags := 18, nameIndex := 9, descriptorIndex := 10, attributes := #[] }, { accessFlags := 2, nameIndex := 19, descriptorIndex := 10, attributes := #[] }])
  fields := #[{ name := "name", type := (.object "java/lang/String"), accessFlags := 18, slot := 0, constantValue := 0 }, { name := "ordinal", type := .int, accessFlags := 18, slot := 1, constantValue := 0 }, { name := "hash", type := .int, accessFlags := 2, slot := 2, constantValue := 0 }]
  methods := #[]
  instanceTypes := #[(.object "java/lang/String"), .int, .int]
  staticTypes := #[]
  resolved := Array.replicate 204 none
  statics := none }

def pool6 : Array CpInfo := pool [(1, .class_ 2), (0, u "com/example/tollgate/tollgate/policy/StaticTable"), (2, u "PLAYS"), (0, u "Lcom/example/tollgate/tollgate/policy/StaticTable;"), (2, u "PERMISSIONS"), (2, u "PROHIBITIONS"), (2, u "ROLE_PARENTS"), (2, u "ORG_PARENTS"), (0, .fieldref 1 20), (0, .nameAndType 21 6), (0, u "SSD_CONSTRAINTS"), (0, .fieldref 1 23), (0, .nameAndType 24 6), (0, u "SSD_MEMBERS"), (2, u "$VALUES"), (0, u "[Lcom/example/tollgate/tollgate/policy/StaticTable;"), (6, .class_ 37), (1, u "java/lang/Enum"), (8, u "keyword"), (0, u "Ljava/lang/String;"), (2, u "required"), (0, u "Z"), (8, u "columns"), (0, u "Ljava/util/List;"), (161, u "getCompanion"), (0, u "()Lcom/example/tollgate/tollgate/policy/StaticTable;")] 60

def k6c0 : Code := { maxStack := 2, maxLocals := 2, code := prog_88_method_9_code, exceptionTable := #[], attributes := #[] }
def k6m0 : Method := { name := "getCompanion", desc := "()Lcom/example/tollgate/tollgate/policy/StaticTable;", sig := { parameters := [], returnType := some (.object "com/example/tollgate/tollgate/policy/StaticTable") }, accessFlags := 0, code := some k6c0 }
/-- com/example/tollgate/tollgate/policy/StaticTable -/
def k6 : Class := { plain "com/example/tollgate/tollgate/policy/StaticTable" (some 5) with
  accessFlags := 16433
  interfaces := #[]
  cf := some (fileOf pool6 1 #[] #[{ accessFlags := 0, nameIndex := 223, descriptorIndex := 224, attributes := #[] }] 16433 35 #[] #[{ accessFlags := 16409, nameIndex := 5, descriptorIndex := 6, attributes := #[] }, { accessFlags := 16409, nameIndex := 9, descriptorIndex := 6, attributes := #[] }, { accessFlags := 16409, nameIndex := 12, descriptorIndex := 6, attributes := #[] }, { accessFlags := 16409, nameIndex := 15, descriptorIndex := 6, attributes := #[] }, { accessFlags := 16409, nameIndex := 18, descriptorIndex := 6, attributes := #[] }, { accessFlags := 16409, nameIndex := 21, descriptorIndex := 6, attributes := #[] }, { accessFlags := 16409, nameIndex := 24, descriptorIndex := 6, attributes := #[] }, { accessFlags := 18, nameIndex := 46, descriptorIndex := 47, attributes := #[] }, { accessFlags := 18, nameIndex := 50, descriptorIndex := 51, attributes := #[] }, { accessFlags := 18, nameIndex := 60, descriptorIndex := 61, attributes := #[] }, { accessFlags := 4122, nameIndex := 27, descriptorIndex := 28, attributes := #[] }])
  fields := #[{ name := "PLAYS", type := (.object "com/example/tollgate/tollgate/policy/StaticTable"), accessFlags := 16409, slot := 0, constantValue := 0 }, { name := "PERMISSIONS", type := (.object "com/example/tollgate/tollgate/policy/StaticTable"), accessFlags := 16409, slot := 1, constantValue := 0 }, { name := "PROHIBITIONS", type := (.object "com/example/tollgate/tollgate/policy/StaticTable"), accessFlags := 16409, slot := 2, constantValue := 0 }, { name := "ROLE_PARENTS", type := (.object "com/example/tollgate/tollgate/policy/StaticTable"), accessFlags := 16409, slot := 3, constantValue := 0 }, { name := "ORG_PARENTS", type := (.object "com/example/tollgate/tollgate/policy/StaticTable"), accessFlags := 16409, slot := 4, constantValue := 0 }, { name := "SSD_CONSTRAINTS", type := (.object "com/example/tollgate/tollgate/policy/StaticTable"), accessFlags := 16409, slot := 5, constantValue := 0 }, { name := "SSD_MEMBERS", type := (.object "com/example/tollgate/tollgate/policy/StaticTable"), accessFlags := 16409, slot := 6, constantValue := 0 }, { name := "keyword", type := (.object "java/lang/String"), accessFlags := 18, slot := 3, constantValue := 0 }, { name := "required", type := .boolean, accessFlags := 18, slot := 4, constantValue := 0 }, { name := "columns", type := (.object "java/util/List"), accessFlags := 18, slot := 5, constantValue := 0 }, { name := "$VALUES", type := (.array (.object "com/example/tollgate/tollgate/policy/StaticTable")), accessFlags := 4122, slot := 7, constantValue := 0 }]
  methods := #[k6m0]
  instanceTypes := #[(.object "java/lang/String"), .int, .int, (.object "java/lang/String"), .boolean, (.object "java/util/List")]
  staticTypes := #[(.object "com/example/tollgate/tollgate/policy/StaticTable"), (.object "com/example/tollgate/tollgate/policy/StaticTable"), (.object "com/example/tollgate/tollgate/policy/StaticTable"), (.object "com/example/tollgate/tollgate/policy/StaticTable"), (.object "com/example/tollgate/tollgate/policy/StaticTable"), (.object "com/example/tollgate/tollgate/policy/StaticTable"), (.object "com/example/tollgate/tollgate/policy/StaticTable"), (.array (.object "com/example/tollgate/tollgate/policy/StaticTable"))]
  resolved := Array.replicate 285 none
  statics := some 0 }

def pool7 : Array CpInfo := pool [(1, u "java/lang/Cloneable"), (0, .class_ 1), (0, u "java/lang/Object"), (0, .class_ 3)] 3

/-- java/lang/Cloneable -/
def k7 : Class := { plain "java/lang/Cloneable" (some 0) with
  accessFlags := 1537
  interfaces := #[]
  cf := some (fileOf pool7 2 #[] #[] 1537 4 #[] #[])
  fields := #[]
  methods := #[]
  instanceTypes := #[]
  staticTypes := #[]
  resolved := Array.replicate 8 none
  statics := none }

/-- the primitive byte -/
def k8 : Class := { plain "byte" none with kind := .primitive 'B', accessFlags := 0x411 }
/-- [B -/
def k9 : Class := { plain "[B" (some 0) with kind := .array 8 .byte, interfaces := #[7, 4], accessFlags := 1041 }

/-- the primitive int -/
def k10 : Class := { plain "int" none with kind := .primitive 'I', accessFlags := 0x411 }
/-- [I -/
def k11 : Class := { plain "[I" (some 0) with kind := .array 10 .int, interfaces := #[7, 4], accessFlags := 1041 }

def heap : Heap := #[{ cls := 6, slots := #[.ref 1, .ref 2, .ref 3, .ref 4, .ref 5, .ref 6, .ref 7, .null], vm := .statics 6 },
  { cls := 6, slots := #[.null, .int 0, .int 0, .null, .int 0, .null], vm := .none },
  { cls := 6, slots := #[.null, .int 1, .int 0, .null, .int 0, .null], vm := .none },
  { cls := 6, slots := #[.null, .int 2, .int 0, .null, .int 0, .null], vm := .none },
  { cls := 6, slots := #[.null, .int 3, .int 0, .null, .int 0, .null], vm := .none },
  { cls := 6, slots := #[.null, .int 4, .int 0, .null, .int 0, .null], vm := .none },
  { cls := 6, slots := #[.null, .int 5, .int 0, .null, .int 0, .null], vm := .none },
  { cls := 6, slots := #[.null, .int 6, .int 0, .null, .int 0, .null], vm := .none }]
def classes : Array Class := #[k0, k1, k2, k3, k4, k5, k6, k7, k8, k9, k10, k11]
def interned : List (Array UInt16 × Addr) := []
def slotsUsed : Nat := 50
def theMethod : MethodId := ⟨1, 3⟩
def args0 : Array Value := #[.int 5]
def aboutOver (below : List Frame) : State where
  vm := { classes := classes, interned := interned.toArray }
  heap := heap
  slotsUsed := slotsUsed
  threads := #[{ frames := .invoking theMethod args0 :: below }]
def below0 : List Frame := [.native { method := ⟨0, 0⟩, args := #[] }]
def about1 : State := aboutOver below0
def p0 : Program := .bare "" "" ""
def e0 : Env := launch0.env 0 0 0
theorem w_frames : about1.frames = Frame.invoking theMethod args0 :: below0 := rfl
set_option maxRecDepth 65536 in
theorem w_args : argsFit about1.vm theMethod args0 = true := by decide +kernel
set_option maxRecDepth 65536 in
theorem w_heap : heapFits about1 = true := by decide +kernel
set_option maxRecDepth 65536 in
theorem w_runnable : about1.curStatus? = some .runnable := by decide +kernel
set_option maxRecDepth 65536 in
theorem w_alone : about1.alone = true := by decide +kernel
set_option maxRecDepth 65536 in
theorem w_named : about1.methodNamed? x = some theMethod := by decide +kernel
set_option maxRecDepth 65536 in
theorem w_hears : about1.hears theMethod below0 = true := by decide +kernel
set_option maxRecDepth 65536 in
theorem w_ripe : about1.ripe theMethod args0 below0 = true := by decide +kernel
theorem w_running : about1.status = .running := rfl
set_option maxRecDepth 65536 in
theorem w_room : about1.hasRoom e0.platform room_1 = true :=
  launch0.hasRoom_least _ room_1 (by decide +kernel) (by decide +kernel) (by decide +kernel) (by decide +kernel) (by decide +kernel) (by decide +kernel)
theorem allAtoms_all (ts : List Jvm.Cond) (a : Array Jvm.Value) (st : Jvm.State) : (allAtoms ts).before a st = ts.all (fun c => c.before a st) := by
  induction ts with
  | nil => rfl
  | cons c t ih =>
    show (Jvm.Cond.and c (allAtoms t)).before a st = _
    rw [Jvm.Cond.before_and, ih, List.all_cons]
def words1 : List Jvm.Cond := Jvm.Cond.code x code maxLocals ret :: tables_1
/-- a 'code' word, met by the world's own term for the bytes: nothing is compared byte by byte -/
theorem code_word {y : MethodName} {bytes : ByteArray} {mx : Nat} {rt : Option FieldType} {a : Array Value} {s : State} {m : MethodId} {meth : Method} {c : Code} (h1 : s.methodNamed? y = some m) (h2 : s.vm.method? m = some meth) (h3 : meth.code = some c) (h4 : c.code = bytes)
    (h5 : (c.maxLocals == mx && c.exceptionTable.isEmpty && decide (c.maxStack ≤ mostOperands) && decide (meth.sig.returnType = rt) && !meth.locks && decide (parseMethodDescriptor y.desc = some meth.sig)) = true) : (Jvm.Cond.code y bytes mx rt).before a s = true := by
  simp only [Bool.and_eq_true, beq_iff_eq, Bool.not_eq_true', decide_eq_true_eq] at h5
  obtain ⟨⟨⟨⟨⟨g1, g2⟩, g3⟩, g4⟩, g5⟩, g6⟩ := h5
  simp [Cond.before, Cond.holds, Cond.value, h1, h2, h3, h4, g1, g2, g3, g4, g5, g6]
def isCode : Jvm.Cond → Bool
  | .code _ _ _ _ => true
  | _ => false
theorem all_split {L : List Jvm.Cond} {P : Jvm.Cond → Bool} (h1 : L.all (fun c => isCode c || P c) = true) (h2 : ∀ c ∈ L.filter isCode, P c = true) : L.all P = true := by
  refine List.all_eq_true.mpr fun c hc => ?_
  have h := List.all_eq_true.mp h1 c hc
  rcases Bool.eq_false_or_eq_true (isCode c) with hi | hi
  · exact h2 c (List.mem_filter.mpr ⟨hc, hi⟩)
  · simpa [hi] using h
set_option maxRecDepth 65536 in
theorem w_c0 : (Jvm.Cond.code x code maxLocals ret).before args0 about1 = true := code_word (m := ⟨1, 3⟩) (meth := k1m3) (c := k1c3) (by decide +kernel) rfl rfl rfl (by decide +kernel)
set_option maxRecDepth 65536 in
theorem w_c1 : (Jvm.Cond.code ({ cls := "com/example/tollgate/tollgate/policy/StaticTableGetCompanionPinLaw", name := "pick", desc := "(I)Lcom/example/tollgate/tollgate/policy/StaticTable;" } : Jvm.MethodName) method_2_code (1 : Nat) (Option.some (Jvm.ClassFile.FieldType.object "com/example/tollgate/tollgate/policy/StaticTable"))).before args0 about1 = true := code_word (m := ⟨1, 1⟩) (meth := k1m1) (c := k1c1) (by decide +kernel) rfl rfl rfl (by decide +kernel)
set_option maxRecDepth 65536 in
theorem w_c2 : (Jvm.Cond.code ({ cls := "com/example/tollgate/tollgate/policy/StaticTable", name := "getCompanion", desc := "()Lcom/example/tollgate/tollgate/policy/StaticTable;" } : Jvm.MethodName) prog_88_method_9_code (2 : Nat) (Option.some (Jvm.ClassFile.FieldType.object "com/example/tollgate/tollgate/policy/StaticTable"))).before args0 about1 = true := code_word (m := ⟨6, 0⟩) (meth := k6m0) (c := k6c0) (by decide +kernel) rfl rfl rfl (by decide +kernel)
set_option maxRecDepth 65536 in
theorem w_c3 : (Jvm.Cond.code ({ cls := "com/example/tollgate/tollgate/policy/StaticTableGetCompanionPinLaw", name := "expected", desc := "(I)Lcom/example/tollgate/tollgate/policy/StaticTable;" } : Jvm.MethodName) method_3_code (1 : Nat) (Option.some (Jvm.ClassFile.FieldType.object "com/example/tollgate/tollgate/policy/StaticTable"))).before args0 about1 = true := code_word (m := ⟨1, 2⟩) (meth := k1m2) (c := k1c2) (by decide +kernel) rfl rfl rfl (by decide +kernel)
def codes1 : List Jvm.Cond := [Jvm.Cond.code x code maxLocals ret, Jvm.Cond.code ({ cls := "com/example/tollgate/tollgate/policy/StaticTableGetCompanionPinLaw", name := "pick", desc := "(I)Lcom/example/tollgate/tollgate/policy/StaticTable;" } : Jvm.MethodName) method_2_code (1 : Nat) (Option.some (Jvm.ClassFile.FieldType.object "com/example/tollgate/tollgate/policy/StaticTable")), Jvm.Cond.code ({ cls := "com/example/tollgate/tollgate/policy/StaticTable", name := "getCompanion", desc := "()Lcom/example/tollgate/tollgate/policy/StaticTable;" } : Jvm.MethodName) prog_88_method_9_code (2 : Nat) (Option.some (Jvm.ClassFile.FieldType.object "com/example/tollgate/tollgate/policy/StaticTable")), Jvm.Cond.code ({ cls := "com/example/tollgate/tollgate/policy/StaticTableGetCompanionPinLaw", name := "expected", desc := "(I)Lcom/example/tollgate/tollgate/policy/StaticTable;" } : Jvm.MethodName) method_3_code (1 : Nat) (Option.some (Jvm.ClassFile.FieldType.object "com/example/tollgate/tollgate/policy/StaticTable"))]
set_option maxRecDepth 65536 in
theorem codes_eq : words1.filter isCode = codes1 := rfl
theorem w_codes : ∀ c ∈ words1.filter isCode, c.before args0 about1 = true := by
  rw [codes_eq]
  intro c hc
  simp only [codes1, List.mem_cons, List.not_mem_nil, or_false] at hc
  rcases hc with rfl | rfl | rfl | rfl
  · exact w_c0
  · exact w_c1
  · exact w_c2
  · exact w_c3
set_option maxRecDepth 65536 in
theorem w_t1 : (words1.take 24).all (fun c => isCode c || c.before args0 about1) = true := by decide +kernel
set_option maxRecDepth 65536 in
theorem w_t2 : (words1.drop 24).all (fun c => isCode c || c.before args0 about1) = true := by decide +kernel
theorem w_tables : (allAtoms (Jvm.Cond.code x code maxLocals ret :: tables_1)).before args0 about1 = true := by
  rw [allAtoms_all]
  show words1.all (fun c => c.before args0 about1) = true
  refine all_split ?_ w_codes
  rw [← List.take_append_drop 24 words1, List.all_append, w_t1, w_t2]
  rfl
set_option maxRecDepth 65536 in
theorem w_case : (Jvm.Cond.and given_1 narrow_1).before args0 about1 = true := by decide +kernel
theorem w_applies : (headSpec (Jvm.Cond.code x code maxLocals ret :: tables_1) room_1).applies x e0.platform about1 = true :=
  (Spec.applies_iff w_frames).mpr ⟨w_running, w_runnable, w_alone, w_named, w_hears, w_ripe, w_room, w_tables⟩
theorem atStart : AtStart classFile x code maxLocals ret World_1 tables_1 room_1 Calls_1 rest_1 Pre_1 launch0 p0 e0 about1 theMethod args0 below0 :=
  ⟨lists_1, trivial, launch0.admits_env _ _ _, launch0.least_env, fairChoices_fair.cas, fairChoices_fair.clock, w_frames, w_args, w_heap, w_applies, trivial, trivial, w_case⟩
end start1
theorem witness_1 : WitnessClaimed_1 := ⟨start1.p0, start1.e0, start1.about1, start1.theMethod, start1.args0, start1.below0, start1.atStart⟩
end Jvm.Pilot.@@N@@
