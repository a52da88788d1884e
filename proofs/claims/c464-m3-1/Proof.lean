import JvmDerived
import JvmDerived.Pilot.@@N@@Statement
import JvmDerived.Pilot.@@N@@Code
set_option linter.unusedVariables false
set_option linter.unusedSimpArgs false
@@BLOCK:NumsL.lean.txt@@
namespace Jvm.RoadKit
open Sem ClassFile Op Lib Jvm.Stand Jvm.Free Jvm.LawKit
section OwnRuns
variable {p : Program} {l : Launch} {e : Env} {R : Room} {s : State} {m : MethodId} {args : Array Value} {below : List Frame} {meth : Method} {c : Code} {T : State} {locs : List Loc} {cells slots : Nat}
/-- from U the invocation comes to its end, and there Q holds -/
def Runs (p : Program) (e : Env) (below : List Frame) (Q : Outcome → State → Prop) (U : State) : Prop :=
  ∃ s₂ o, Steps p.tables e below U s₂ ∧ s₂.status = .running ∧ Ended s₂ below o ∧ Q o s₂
def QE (s : State) (Q : Option Value → Heap → List Loc → Prop) (C S : Nat) : Outcome → State → Prop :=
  fun o U' => ∃ v L, o = .returned v ∧ Q v U'.heap L ∧ FrameEnd s o U' L C S
theorem Runs.by {Q : Outcome → State → Prop} {U U' : State} (h : ∀ t, Steps p.tables e below U' t → Steps p.tables e below U t) (k : Runs p e below Q U') : Runs p e below Q U := by
  obtain ⟨s2, o, h1, h2⟩ := k
  exact ⟨s2, o, h _ h1, h2⟩
theorem Runs.ret {Q : Option Value → Heap → List Loc → Prop} {C S : Nat} {t : FieldType} {w : Value} {i : Instr} {pc : Nat} {Ls : Array Slot} {rest : List Value}
    (X : Stand p l e R s m args below meth c T locs cells slots) (hx : p.tables.exec = Jvm.exec) (hret : meth.sig.returnType = some t) (hlk : meth.locks = false)
    (hi : (i = .ireturn ∧ (t = .int ∨ t = .boolean ∨ t = .byte ∨ t = .char ∨ t = .short) ∧ ∃ z, w = .int z) ∨ (i = .lreturn ∧ t = .long ∧ ∃ z, w = .long z) ∨ (i = .dreturn ∧ t = .double ∧ ∃ z, w = .double z) ∨ (i = .freturn ∧ t = .float ∧ ∃ z, w = .float z) ∨ (i = .areturn ∧ t.isReference = true ∧ w.isRef = true))
    (hn : narrow t w = w) (hd : decode c.code pc = .ok (i, 1)) (hC : cells ≤ C) (hS : slots ≤ S) (hQ : Q (some w) T.heap locs) : Runs p e below (QE s Q C S) (T.setTop (mkF m pc Ls (w :: rest))) := by
  obtain ⟨fs, hr, hrun, hended, hW, hsame⟩ := X.leave (v := some w) (fun h => by rw [hret] at h; cases h) hlk
  exact ⟨_, _, retOut X hx hret hn hi hd hr, hrun, hended, _, _, rfl, hQ, ⟨_, rfl⟩, hW, hsame.mono hC hS⟩
theorem Runs.retV {Q : Option Value → Heap → List Loc → Prop} {C S : Nat} {pc : Nat} {Ls : Array Slot}
    (X : Stand p l e R s m args below meth c T locs cells slots) (hx : p.tables.exec = Jvm.exec) (hret : meth.sig.returnType = none) (hlk : meth.locks = false)
    (hd : decode c.code pc = .ok (.return_, 1)) (hC : cells ≤ C) (hS : slots ≤ S) (hQ : Q none T.heap locs) : Runs p e below (QE s Q C S) (T.setTop (mkF m pc Ls [])) := by
  obtain ⟨fs, hr, hrun, hended, hW, hsame⟩ := X.leave (v := none) (fun _ => rfl) hlk
  exact ⟨_, _, X.returnOut hx hret hd hr, hrun, hended, _, _, rfl, hQ, ⟨_, rfl⟩, hW, hsame.mono hC hS⟩
theorem own_narrow_b (x : Int32) (h : x = 0 ∨ x = 1) : narrow .boolean (.int x) = .int x := by rcases h with rfl | rfl <;> rfl
end OwnRuns
end Jvm.RoadKit
namespace Jvm.Pilot.@@N@@
open Jvm Jvm.ClassFile Sem Op Lib Jvm.Free Jvm.Stand Jvm.LawKit Jvm.RoadKit Bundle Jvm.Pilot.@@N@@.Jvm.D
def own_pick (b0 b1 b2 b3 b4 b5 : Addr) (k : Int32) : Addr := if k = 0 then b0 else if k = 1 then b1 else if k = 2 then b2 else if k = 3 then b3 else if k = 4 then b4 else b5
def own_ord (b0 b1 a : Addr) : Int32 := if a = b0 then 0 else if a = b1 then 0 else 1
theorem own_mod6 (x : Int32) : (x &&& 2147483647) % 6 = 0 ∨ (x &&& 2147483647) % 6 = 1 ∨ (x &&& 2147483647) % 6 = 2 ∨ (x &&& 2147483647) % 6 = 3 ∨ (x &&& 2147483647) % 6 = 4 ∨ (x &&& 2147483647) % 6 = 5 := by
  have e1 : (x &&& 2147483647).toInt = x.toInt % 2 ^ 31 := Jvm.Kit.i32_mask x 2147483647 (k := 31) (by decide) (by decide)
  generalize x &&& 2147483647 = y at *
  have e2 : (y % 6).toInt = y.toInt % 6 := by
    rw [Int32.toInt_mod]
    have : (6 : Int32).toInt = 6 := by decide
    rw [this, Int.tmod_eq_emod_of_nonneg (by omega)]
  have e3 : (y % 6).toInt = 0 ∨ (y % 6).toInt = 1 ∨ (y % 6).toInt = 2 ∨ (y % 6).toInt = 3 ∨ (y % 6).toInt = 4 ∨ (y % 6).toInt = 5 := by omega
  rcases e3 with h | h | h | h | h | h
  · exact Or.inl (Int32.toInt_inj.mp h)
  · exact Or.inr (Or.inl (Int32.toInt_inj.mp h))
  · exact Or.inr (Or.inr (Or.inl (Int32.toInt_inj.mp h)))
  · exact Or.inr (Or.inr (Or.inr (Or.inl (Int32.toInt_inj.mp h))))
  · exact Or.inr (Or.inr (Or.inr (Or.inr (Or.inl (Int32.toInt_inj.mp h)))))
  · exact Or.inr (Or.inr (Or.inr (Or.inr (Or.inr (Int32.toInt_inj.mp h)))))
theorem own_eq_int {t : Term} {n : Int32} {args : Array Value} {s : State} (h : (Cond.eq t (.int n)).value args s none s [] = some true) : t.eval args s none [] s = some (.int n) := by
  obtain ⟨x, y, h1, h2, h3, h4⟩ := cmp_v (Or.inl h)
  have e2 : y = .int n := (Option.some.inj (h2.symm.trans (Term.int_eval n)))
  subst e2
  obtain ⟨z, rfl⟩ := h4
  simp [Cond.value, h1, h2] at h
  rw [h1, h]
theorem own_len {t : Term} {n : Int32} {args : Array Value} {s : State} {a : Addr} {cl : Cell} (h : (Term.length t).eval args s none [] s = some (.int n)) (ht : t.eval args s none [] s = some (.ref a)) (hc : s.heap[a]? = some cl) : cl.slots.size < 2 ^ 31 ∧ cl.slots.size.toInt32 = n := by
  simp only [Term.eval, Option.bind_eq_bind, ht, Option.bind_some] at h
  obtain ⟨cell, hcell, h⟩ := Option.bind_eq_some_iff.mp h
  cases hc.symm.trans (State.arrayAt?_spec hcell).1
  by_cases hn : cl.slots.size < 2147483648
  · rw [if_pos hn] at h; cases h; exact ⟨hn, rfl⟩
  · rw [if_neg hn] at h; cases h
theorem own_arv {t : Term} {z : Int32} {args : Array Value} {s : State} {a : Addr} {vs : List Value} {dv : Value} (hf : Fit s) (ev : t.eval args s none [] s = some (.ref a)) (ha : (Cond.arrayOf t .byte).value args s none s [] = some true) (hl : (Cond.eq (Term.length t) (.int z)).value args s none s [] = some true) (hz : ¬ z < 0) (hv : z.toNatClampNeg = vs.length) (hel : ∀ cl : Cell, s.heap[a]? = some cl → HasL cl 0 vs) : ∃ k, Arv s s.heap a k .byte z vs dv := by
  obtain ⟨cl, A⟩ := Arr.start ev ha
  obtain ⟨q1, q2⟩ := own_len (own_eq_int hl) ev A.1
  exact ⟨_, Arv.start hf A q1 q2 hz hv (hel cl A.1)⟩
theorem d1_0 : decode method_2_code 0 = .ok (.iload_n 0, 1) := by decide +kernel
theorem d1_1 : decode method_2_code 1 = .ok (.ifCond .ne 7, 3) := by decide +kernel
theorem d1_4 : decode method_2_code 4 = .ok (.getstatic 7, 3) := by decide +kernel
theorem d1_7 : decode method_2_code 7 = .ok (.areturn, 1) := by decide +kernel
theorem d1_8 : decode method_2_code 8 = .ok (.iload_n 0, 1) := by decide +kernel
theorem d1_9 : decode method_2_code 9 = .ok (.iconst 1, 1) := by decide +kernel
theorem d1_10 : decode method_2_code 10 = .ok (.if_icmp .ne 7, 3) := by decide +kernel
theorem d1_13 : decode method_2_code 13 = .ok (.getstatic 13, 3) := by decide +kernel
theorem d1_16 : decode method_2_code 16 = .ok (.areturn, 1) := by decide +kernel
theorem d1_17 : decode method_2_code 17 = .ok (.iload_n 0, 1) := by decide +kernel
theorem d1_18 : decode method_2_code 18 = .ok (.iconst 2, 1) := by decide +kernel
theorem d1_19 : decode method_2_code 19 = .ok (.if_icmp .ne 7, 3) := by decide +kernel
theorem d1_22 : decode method_2_code 22 = .ok (.getstatic 16, 3) := by decide +kernel
theorem d1_25 : decode method_2_code 25 = .ok (.areturn, 1) := by decide +kernel
theorem d1_26 : decode method_2_code 26 = .ok (.iload_n 0, 1) := by decide +kernel
theorem d1_27 : decode method_2_code 27 = .ok (.iconst 3, 1) := by decide +kernel
theorem d1_28 : decode method_2_code 28 = .ok (.if_icmp .ne 7, 3) := by decide +kernel
theorem d1_31 : decode method_2_code 31 = .ok (.getstatic 19, 3) := by decide +kernel
theorem d1_34 : decode method_2_code 34 = .ok (.areturn, 1) := by decide +kernel
theorem d1_35 : decode method_2_code 35 = .ok (.iload_n 0, 1) := by decide +kernel
theorem d1_36 : decode method_2_code 36 = .ok (.iconst 4, 1) := by decide +kernel
theorem d1_37 : decode method_2_code 37 = .ok (.if_icmp .ne 7, 3) := by decide +kernel
theorem d1_40 : decode method_2_code 40 = .ok (.getstatic 22, 3) := by decide +kernel
theorem d1_43 : decode method_2_code 43 = .ok (.areturn, 1) := by decide +kernel
theorem d1_44 : decode method_2_code 44 = .ok (.getstatic 25, 3) := by decide +kernel
theorem d1_47 : decode method_2_code 47 = .ok (.areturn, 1) := by decide +kernel
theorem ef_1_0 (m : MethodId) (p0 : Int32) : entryFrame m #[(.int p0)] 1 = mkF m 0 #[.val (.int p0)] [] := by first | (simp [entryFrame, mkF, argsToLocals, Value.category]; done) | rfl
theorem pn_com_example_tollgate_tollgate_policy_ComparatorOrdersPinLaw : plainName "com/example/tollgate/tollgate/policy/ComparatorOrdersPinLaw" = true := by first | (simp [plainName, overriddenIn]; done) | decide +kernel
def Q_rm1 (Z : State) (p0 : Int32) (b0 b1 b2 b3 b4 b5 : Addr) (h0 : Heap) (n0 : Nat) (v : Option Value) (h : Heap) (L : List Loc) : Prop := v = some (.ref (own_pick b0 b1 b2 b3 b4 b5 p0)) ∧ Fr n0 L ∧ h = h0
set_option maxRecDepth 65536 in
set_option maxHeartbeats 40000000 in
theorem rm1 (l : Launch) (Z : State) (a0 : Array Value) (hw : ∀ d ∈ tables_1, d.before a0 Z = true) (ws : List Jvm.Cond) (p0 : Int32) (b0 b1 b2 b3 b4 b5 : Addr) (h0 : Heap) (n0 : Nat) (Z0 : n0 ≤ h0.size) (S0 : Sta Z h0 "com/example/tollgate/tollgate/policy/Condition$Comparator" "EQUAL" "Lcom/example/tollgate/tollgate/policy/Condition$Comparator;" (.ref b0)) (S1 : Sta Z h0 "com/example/tollgate/tollgate/policy/Condition$Comparator" "NOT_EQUAL" "Lcom/example/tollgate/tollgate/policy/Condition$Comparator;" (.ref b1)) (S2 : Sta Z h0 "com/example/tollgate/tollgate/policy/Condition$Comparator" "LESS" "Lcom/example/tollgate/tollgate/policy/Condition$Comparator;" (.ref b2)) (S3 : Sta Z h0 "com/example/tollgate/tollgate/policy/Condition$Comparator" "LESS_OR_EQUAL" "Lcom/example/tollgate/tollgate/policy/Condition$Comparator;" (.ref b3)) (S4 : Sta Z h0 "com/example/tollgate/tollgate/policy/Condition$Comparator" "GREATER" "Lcom/example/tollgate/tollgate/policy/Condition$Comparator;" (.ref b4)) (S5 : Sta Z h0 "com/example/tollgate/tollgate/policy/Condition$Comparator" "GREATER_OR_EQUAL" "Lcom/example/tollgate/tollgate/policy/Condition$Comparator;" (.ref b5)) :
    MetFree l (⟨"com/example/tollgate/tollgate/policy/ComparatorOrdersPinLaw", "pick", "(I)Lcom/example/tollgate/tollgate/policy/Condition$Comparator;"⟩ : MethodName) (head1 (Jvm.Cond.code (⟨"com/example/tollgate/tollgate/policy/ComparatorOrdersPinLaw", "pick", "(I)Lcom/example/tollgate/tollgate/policy/Condition$Comparator;"⟩ : MethodName) method_2_code 1 (some (.object "com/example/tollgate/tollgate/policy/Condition$Comparator")) :: ws) ({ frames := 0, cells := 0, slots := 0, locals := 0 } : Room)) (fun a U => a = #[(.int p0)] ∧ Z.Warmed39 U.vm ∧ U.heap = h0) (fun _ _ _ _ _ => True) (fun _ U o U' => ∃ v L, o = .returned v ∧ Q_rm1 Z p0 b0 b1 b2 b3 b4 b5 h0 n0 v U'.heap L ∧ FrameEnd U o U' L ({ frames := 0, cells := 0, slots := 0, locals := 0 } : Room).cells ({ frames := 0, cells := 0, slots := 0, locals := 0 } : Room).slots) := by
  refine MetFree.of_bodySF (plainFor_of_name pn_com_example_tollgate_tollgate_policy_ComparatorOrdersPinLaw) hisR ?_
  intro p e s m args below meth c s₁ Bd hml0 hP hK
  obtain ⟨rfl, hZ, hh⟩ := hP
  have hx := Bd.exec
  have hby := Bd.bytes
  have hlk := BodyLoose.notSynchronized Bd
  have hrt := Bd.returns
  have hml : c.maxLocals = 1 := hml0
  have hown : s.vm.findClass "com/example/tollgate/tollgate/policy/ComparatorOrdersPinLaw" = some m.cls := findClass_of_methodNamed Bd.named
  have hnm := (name_of_methodNamed Bd.named Bd.method).1
  have X0 : Stand p l e ({ frames := 0, cells := 0, slots := 0, locals := 0 } : Room) s m #[(.int p0)] below meth c s₁ [] 0 0 := Stand.of_body Bd
  have e0 : s₁.heap = h0 := by rw [← hh, Bd.state]; rfl
  have N0 := Fr.nil n0
  have K0 : Keep h0 h0 [] := Keep.refl h0 _
  show Runs p e below (QE s (Q_rm1 Z p0 b0 b1 b2 b3 b4 b5 h0 n0) ({ frames := 0, cells := 0, slots := 0, locals := 0 } : Room).cells ({ frames := 0, cells := 0, slots := 0, locals := 0 } : Room).slots) (s₁.setTop (entryFrame m #[(.int p0)] 1))
  rw [ef_1_0 m p0]
  show Runs p e below _ (s₁.setTop (mkF m 0 #[.val (.int p0)] []))
  refine Runs.by (fun _ hr => XS.iloadN X0.here hx rfl (hb hby d1_0) rfl  hr) ?_
  show Runs p e below _ (s₁.setTop (mkF m 1 #[.val (.int p0)] [(.int p0)]))
  by_cases hc1 : p0 = (0 : Int32)
  · -- pc 1: p0 = (0 : Int32)
    refine Runs.by (fun _ hr => XS.ifNo X0.here hx rfl (hb hby d1_1) rfl ((if0 _ _).trans (teq hc1).2) hr) ?_
    show Runs p e below _ (s₁.setTop (mkF m 4 #[.val (.int p0)] []))
    obtain ⟨T1, X1, e1, st1⟩ := getS2 X0 hx hZ hown (host := "") (Or.inl (hw _ (List.mem_of_getElem? (i := 5) rfl))) Via.refl e0 S0 (g := (mkF m 4 #[.val (.int p0)] [])) rfl (hb hby d1_4)
    refine Runs.by st1 ?_
    show Runs p e below _ (T1.setTop (mkF m 7 #[.val (.int p0)] [(.ref b0)]))
    refine Runs.ret X1 hx hrt hlk (Or.inr (Or.inr (Or.inr (Or.inr ⟨rfl, rfl, rfl⟩)))) rfl (hb hby d1_7) (by decide) (by decide) ?_
    rw [e1]
    exact ⟨by simp [own_pick, *], N0, rfl⟩
  · -- pc 1: not p0 = (0 : Int32)
    refine Runs.by (fun _ hr => XS.ifYes X0.here hx rfl (pc0 := 1) (pc' := 8) rfl (hb hby d1_1) rfl ((if0 _ _).trans (feq hc1).2) (by decide) (by decide) hr) ?_
    show Runs p e below _ (s₁.setTop (mkF m 8 #[.val (.int p0)] []))
    refine Runs.by (fun _ hr => XS.iloadN X0.here hx rfl (hb hby d1_8) rfl  hr) ?_
    show Runs p e below _ (s₁.setTop (mkF m 9 #[.val (.int p0)] [(.int p0)]))
    refine Runs.by (fun _ hr => XS.iconst X0.here hx rfl (hb hby d1_9) hr) ?_
    show Runs p e below _ (s₁.setTop (mkF m 10 #[.val (.int p0)] [(.int (1 : Int32)), (.int p0)]))
    by_cases hc10 : p0 = (1 : Int32)
    · -- pc 10: p0 = (1 : Int32)
      refine Runs.by (fun _ hr => XS.icmpNo X0.here hx rfl (hb hby d1_10) rfl (teq hc10).2 hr) ?_
      show Runs p e below _ (s₁.setTop (mkF m 13 #[.val (.int p0)] []))
      obtain ⟨T2, X2, e2, st2⟩ := getS2 X0 hx hZ hown (host := "") (Or.inl (hw _ (List.mem_of_getElem? (i := 55) rfl))) Via.refl e0 S1 (g := (mkF m 13 #[.val (.int p0)] [])) rfl (hb hby d1_13)
      refine Runs.by st2 ?_
      show Runs p e below _ (T2.setTop (mkF m 16 #[.val (.int p0)] [(.ref b1)]))
      refine Runs.ret X2 hx hrt hlk (Or.inr (Or.inr (Or.inr (Or.inr ⟨rfl, rfl, rfl⟩)))) rfl (hb hby d1_16) (by decide) (by decide) ?_
      rw [e2]
      exact ⟨by simp [own_pick, *], N0, rfl⟩
    · -- pc 10: not p0 = (1 : Int32)
      refine Runs.by (fun _ hr => XS.icmpYes X0.here hx rfl (pc0 := 10) (pc' := 17) rfl (hb hby d1_10) rfl (feq hc10).2 (by decide) (by decide) hr) ?_
      show Runs p e below _ (s₁.setTop (mkF m 17 #[.val (.int p0)] []))
      refine Runs.by (fun _ hr => XS.iloadN X0.here hx rfl (hb hby d1_17) rfl  hr) ?_
      show Runs p e below _ (s₁.setTop (mkF m 18 #[.val (.int p0)] [(.int p0)]))
      refine Runs.by (fun _ hr => XS.iconst X0.here hx rfl (hb hby d1_18) hr) ?_
      show Runs p e below _ (s₁.setTop (mkF m 19 #[.val (.int p0)] [(.int (2 : Int32)), (.int p0)]))
      by_cases hc19 : p0 = (2 : Int32)
      · -- pc 19: p0 = (2 : Int32)
        refine Runs.by (fun _ hr => XS.icmpNo X0.here hx rfl (hb hby d1_19) rfl (teq hc19).2 hr) ?_
        show Runs p e below _ (s₁.setTop (mkF m 22 #[.val (.int p0)] []))
        obtain ⟨T3, X3, e3, st3⟩ := getS2 X0 hx hZ hown (host := "") (Or.inl (hw _ (List.mem_of_getElem? (i := 53) rfl))) Via.refl e0 S2 (g := (mkF m 22 #[.val (.int p0)] [])) rfl (hb hby d1_22)
        refine Runs.by st3 ?_
        show Runs p e below _ (T3.setTop (mkF m 25 #[.val (.int p0)] [(.ref b2)]))
        refine Runs.ret X3 hx hrt hlk (Or.inr (Or.inr (Or.inr (Or.inr ⟨rfl, rfl, rfl⟩)))) rfl (hb hby d1_25) (by decide) (by decide) ?_
        rw [e3]
        exact ⟨by simp [own_pick, *], N0, rfl⟩
      · -- pc 19: not p0 = (2 : Int32)
        refine Runs.by (fun _ hr => XS.icmpYes X0.here hx rfl (pc0 := 19) (pc' := 26) rfl (hb hby d1_19) rfl (feq hc19).2 (by decide) (by decide) hr) ?_
        show Runs p e below _ (s₁.setTop (mkF m 26 #[.val (.int p0)] []))
        refine Runs.by (fun _ hr => XS.iloadN X0.here hx rfl (hb hby d1_26) rfl  hr) ?_
        show Runs p e below _ (s₁.setTop (mkF m 27 #[.val (.int p0)] [(.int p0)]))
        refine Runs.by (fun _ hr => XS.iconst X0.here hx rfl (hb hby d1_27) hr) ?_
        show Runs p e below _ (s₁.setTop (mkF m 28 #[.val (.int p0)] [(.int (3 : Int32)), (.int p0)]))
        by_cases hc28 : p0 = (3 : Int32)
        · -- pc 28: p0 = (3 : Int32)
          refine Runs.by (fun _ hr => XS.icmpNo X0.here hx rfl (hb hby d1_28) rfl (teq hc28).2 hr) ?_
          show Runs p e below _ (s₁.setTop (mkF m 31 #[.val (.int p0)] []))
          obtain ⟨T4, X4, e4, st4⟩ := getS2 X0 hx hZ hown (host := "") (Or.inl (hw _ (List.mem_of_getElem? (i := 49) rfl))) Via.refl e0 S3 (g := (mkF m 31 #[.val (.int p0)] [])) rfl (hb hby d1_31)
          refine Runs.by st4 ?_
          show Runs p e below _ (T4.setTop (mkF m 34 #[.val (.int p0)] [(.ref b3)]))
          refine Runs.ret X4 hx hrt hlk (Or.inr (Or.inr (Or.inr (Or.inr ⟨rfl, rfl, rfl⟩)))) rfl (hb hby d1_34) (by decide) (by decide) ?_
          rw [e4]
          exact ⟨by simp [own_pick, *], N0, rfl⟩
        · -- pc 28: not p0 = (3 : Int32)
          refine Runs.by (fun _ hr => XS.icmpYes X0.here hx rfl (pc0 := 28) (pc' := 35) rfl (hb hby d1_28) rfl (feq hc28).2 (by decide) (by decide) hr) ?_
          show Runs p e below _ (s₁.setTop (mkF m 35 #[.val (.int p0)] []))
          refine Runs.by (fun _ hr => XS.iloadN X0.here hx rfl (hb hby d1_35) rfl  hr) ?_
          show Runs p e below _ (s₁.setTop (mkF m 36 #[.val (.int p0)] [(.int p0)]))
          refine Runs.by (fun _ hr => XS.iconst X0.here hx rfl (hb hby d1_36) hr) ?_
          show Runs p e below _ (s₁.setTop (mkF m 37 #[.val (.int p0)] [(.int (4 : Int32)), (.int p0)]))
          by_cases hc37 : p0 = (4 : Int32)
          · -- pc 37: p0 = (4 : Int32)
            refine Runs.by (fun _ hr => XS.icmpNo X0.here hx rfl (hb hby d1_37) rfl (teq hc37).2 hr) ?_
            show Runs p e below _ (s₁.setTop (mkF m 40 #[.val (.int p0)] []))
            obtain ⟨T5, X5, e5, st5⟩ := getS2 X0 hx hZ hown (host := "") (Or.inl (hw _ (List.mem_of_getElem? (i := 58) rfl))) Via.refl e0 S4 (g := (mkF m 40 #[.val (.int p0)] [])) rfl (hb hby d1_40)
            refine Runs.by st5 ?_
            show Runs p e below _ (T5.setTop (mkF m 43 #[.val (.int p0)] [(.ref b4)]))
            refine Runs.ret X5 hx hrt hlk (Or.inr (Or.inr (Or.inr (Or.inr ⟨rfl, rfl, rfl⟩)))) rfl (hb hby d1_43) (by decide) (by decide) ?_
            rw [e5]
            exact ⟨by simp [own_pick, *], N0, rfl⟩
          · -- pc 37: not p0 = (4 : Int32)
            refine Runs.by (fun _ hr => XS.icmpYes X0.here hx rfl (pc0 := 37) (pc' := 44) rfl (hb hby d1_37) rfl (feq hc37).2 (by decide) (by decide) hr) ?_
            show Runs p e below _ (s₁.setTop (mkF m 44 #[.val (.int p0)] []))
            obtain ⟨T6, X6, e6, st6⟩ := getS2 X0 hx hZ hown (host := "") (Or.inl (hw _ (List.mem_of_getElem? (i := 56) rfl))) Via.refl e0 S5 (g := (mkF m 44 #[.val (.int p0)] [])) rfl (hb hby d1_44)
            refine Runs.by st6 ?_
            show Runs p e below _ (T6.setTop (mkF m 47 #[.val (.int p0)] [(.ref b5)]))
            refine Runs.ret X6 hx hrt hlk (Or.inr (Or.inr (Or.inr (Or.inr ⟨rfl, rfl, rfl⟩)))) rfl (hb hby d1_47) (by decide) (by decide) ?_
            rw [e6]
            exact ⟨by simp [own_pick, *], N0, rfl⟩
theorem d2_0 : decode prog_64_method_6_code 0 = .ok (.aload_n 0, 1) := by decide +kernel
theorem d2_1 : decode prog_64_method_6_code 1 = .ok (.getfield 41, 3) := by decide +kernel
theorem d2_4 : decode prog_64_method_6_code 4 = .ok (.areturn, 1) := by decide +kernel
theorem ef_2_1 (m : MethodId) (o0 : Addr) : entryFrame m #[(.ref o0)] 1 = mkF m 0 #[.val (.ref o0)] [] := by first | (simp [entryFrame, mkF, argsToLocals, Value.category]; done) | rfl
theorem pn_com_example_tollgate_tollgate_policy_Condition_Comparator : plainName "com/example/tollgate/tollgate/policy/Condition$Comparator" = true := by first | (simp [plainName, overriddenIn]; done) | decide +kernel
def Q_rm2 (Z : State) (o0 : Addr) (sy : Addr) (h0 : Heap) (n0 : Nat) (v : Option Value) (h : Heap) (L : List Loc) : Prop := v = some (.ref sy) ∧ Fr n0 L ∧ h = h0
set_option maxRecDepth 65536 in
set_option maxHeartbeats 40000000 in
theorem rm2 (l : Launch) (Z : State) (a0 : Array Value) (hw : ∀ d ∈ tables_1, d.before a0 Z = true) (ws : List Jvm.Cond) (o0 : Addr) (sy : Addr) (h0 : Heap) (n0 : Nat) (Z0 : n0 ≤ h0.size) (F0 : Fld Z h0 o0 "com/example/tollgate/tollgate/policy/Condition$Comparator" "symbol" "Ljava/lang/String;" (.ref sy)) :
    MetFree l (⟨"com/example/tollgate/tollgate/policy/Condition$Comparator", "toString", "()Ljava/lang/String;"⟩ : MethodName) (head1 (Jvm.Cond.code (⟨"com/example/tollgate/tollgate/policy/Condition$Comparator", "toString", "()Ljava/lang/String;"⟩ : MethodName) prog_64_method_6_code 1 (some (.object "java/lang/String")) :: ws) ({ frames := 0, cells := 0, slots := 0, locals := 0 } : Room)) (fun a U => a = #[(.ref o0)] ∧ Z.Warmed39 U.vm ∧ U.heap = h0) (fun _ _ _ _ _ => True) (fun _ U o U' => ∃ v L, o = .returned v ∧ Q_rm2 Z o0 sy h0 n0 v U'.heap L ∧ FrameEnd U o U' L ({ frames := 0, cells := 0, slots := 0, locals := 0 } : Room).cells ({ frames := 0, cells := 0, slots := 0, locals := 0 } : Room).slots) := by
  refine MetFree.of_bodySF (plainFor_of_name pn_com_example_tollgate_tollgate_policy_Condition_Comparator) hisR ?_
  intro p e s m args below meth c s₁ Bd hml0 hP hK
  obtain ⟨rfl, hZ, hh⟩ := hP
  have hx := Bd.exec
  have hby := Bd.bytes
  have hlk := BodyLoose.notSynchronized Bd
  have hrt := Bd.returns
  have hml : c.maxLocals = 1 := hml0
  have hown : s.vm.findClass "com/example/tollgate/tollgate/policy/Condition$Comparator" = some m.cls := findClass_of_methodNamed Bd.named
  have hnm := (name_of_methodNamed Bd.named Bd.method).1
  have X0 : Stand p l e ({ frames := 0, cells := 0, slots := 0, locals := 0 } : Room) s m #[(.ref o0)] below meth c s₁ [] 0 0 := Stand.of_body Bd
  have e0 : s₁.heap = h0 := by rw [← hh, Bd.state]; rfl
  have N0 := Fr.nil n0
  have K0 : Keep h0 h0 [] := Keep.refl h0 _
  show Runs p e below (QE s (Q_rm2 Z o0 sy h0 n0) ({ frames := 0, cells := 0, slots := 0, locals := 0 } : Room).cells ({ frames := 0, cells := 0, slots := 0, locals := 0 } : Room).slots) (s₁.setTop (entryFrame m #[(.ref o0)] 1))
  rw [ef_2_1 m o0]
  show Runs p e below _ (s₁.setTop (mkF m 0 #[.val (.ref o0)] []))
  refine Runs.by (fun _ hr => XS.aloadN X0.here hx rfl (hb hby d2_0) rfl rfl hr) ?_
  show Runs p e below _ (s₁.setTop (mkF m 1 #[.val (.ref o0)] [(.ref o0)]))
  obtain ⟨T1, X1, e1, st1⟩ := getF X0 hx hZ hown (host := "") (Or.inl (hw _ (List.mem_of_getElem? (i := 13) rfl))) Via.refl e0 F0 (g := (mkF m 1 #[.val (.ref o0)] [(.ref o0)])) rfl rfl (hb hby d2_1)
  refine Runs.by st1 ?_
  show Runs p e below _ (T1.setTop (mkF m 4 #[.val (.ref o0)] [(.ref sy)]))
  refine Runs.ret X1 hx hrt hlk (Or.inr (Or.inr (Or.inr (Or.inr ⟨rfl, rfl, rfl⟩)))) rfl (hb hby d2_4) (by decide) (by decide) ?_
  rw [e1]
  exact ⟨rfl, N0, rfl⟩
theorem d8_0 : decode prog_64_method_5_code 0 = .ok (.aload_n 0, 1) := by decide +kernel
theorem d8_1 : decode prog_64_method_5_code 1 = .ok (.getstatic 3, 3) := by decide +kernel
theorem d8_4 : decode prog_64_method_5_code 4 = .ok (.if_acmp .eq 14, 3) := by decide +kernel
theorem d8_7 : decode prog_64_method_5_code 7 = .ok (.aload_n 0, 1) := by decide +kernel
theorem d8_8 : decode prog_64_method_5_code 8 = .ok (.getstatic 7, 3) := by decide +kernel
theorem d8_11 : decode prog_64_method_5_code 11 = .ok (.if_acmp .eq 7, 3) := by decide +kernel
theorem d8_14 : decode prog_64_method_5_code 14 = .ok (.iconst 1, 1) := by decide +kernel
theorem d8_15 : decode prog_64_method_5_code 15 = .ok (.goto 4, 3) := by decide +kernel
theorem d8_18 : decode prog_64_method_5_code 18 = .ok (.iconst 0, 1) := by decide +kernel
theorem d8_19 : decode prog_64_method_5_code 19 = .ok (.ireturn, 1) := by decide +kernel
theorem ef_8_2 (m : MethodId) (o0 : Addr) : entryFrame m #[(.ref o0)] 1 = mkF m 0 #[.val (.ref o0)] [] := by first | (simp [entryFrame, mkF, argsToLocals, Value.category]; done) | rfl
def Q_rm8 (Z : State) (o0 : Addr) (b0 b1 : Addr) (h0 : Heap) (n0 : Nat) (v : Option Value) (h : Heap) (L : List Loc) : Prop := v = some (.int (own_ord b0 b1 o0)) ∧ Fr n0 L ∧ h = h0
set_option maxRecDepth 65536 in
set_option maxHeartbeats 40000000 in
theorem rm8 (l : Launch) (Z : State) (a0 : Array Value) (hw : ∀ d ∈ tables_1, d.before a0 Z = true) (ws : List Jvm.Cond) (o0 : Addr) (b0 b1 : Addr) (h0 : Heap) (n0 : Nat) (Z0 : n0 ≤ h0.size) (S0 : Sta Z h0 "com/example/tollgate/tollgate/policy/Condition$Comparator" "EQUAL" "Lcom/example/tollgate/tollgate/policy/Condition$Comparator;" (.ref b0)) (S1 : Sta Z h0 "com/example/tollgate/tollgate/policy/Condition$Comparator" "NOT_EQUAL" "Lcom/example/tollgate/tollgate/policy/Condition$Comparator;" (.ref b1)) :
    MetFree l (⟨"com/example/tollgate/tollgate/policy/Condition$Comparator", "orders", "()Z"⟩ : MethodName) (head1 (Jvm.Cond.code (⟨"com/example/tollgate/tollgate/policy/Condition$Comparator", "orders", "()Z"⟩ : MethodName) prog_64_method_5_code 1 (some .boolean) :: ws) ({ frames := 0, cells := 0, slots := 0, locals := 0 } : Room)) (fun a U => a = #[(.ref o0)] ∧ Z.Warmed39 U.vm ∧ U.heap = h0) (fun _ _ _ _ _ => True) (fun _ U o U' => ∃ v L, o = .returned v ∧ Q_rm8 Z o0 b0 b1 h0 n0 v U'.heap L ∧ FrameEnd U o U' L ({ frames := 0, cells := 0, slots := 0, locals := 0 } : Room).cells ({ frames := 0, cells := 0, slots := 0, locals := 0 } : Room).slots) := by
  refine MetFree.of_bodySF (plainFor_of_name pn_com_example_tollgate_tollgate_policy_Condition_Comparator) hisR ?_
  intro p e s m args below meth c s₁ Bd hml0 hP hK
  obtain ⟨rfl, hZ, hh⟩ := hP
  have hx := Bd.exec
  have hby := Bd.bytes
  have hlk := BodyLoose.notSynchronized Bd
  have hrt := Bd.returns
  have hml : c.maxLocals = 1 := hml0
  have hown : s.vm.findClass "com/example/tollgate/tollgate/policy/Condition$Comparator" = some m.cls := findClass_of_methodNamed Bd.named
  have hnm := (name_of_methodNamed Bd.named Bd.method).1
  have X0 : Stand p l e ({ frames := 0, cells := 0, slots := 0, locals := 0 } : Room) s m #[(.ref o0)] below meth c s₁ [] 0 0 := Stand.of_body Bd
  have e0 : s₁.heap = h0 := by rw [← hh, Bd.state]; rfl
  have N0 := Fr.nil n0
  have K0 : Keep h0 h0 [] := Keep.refl h0 _
  show Runs p e below (QE s (Q_rm8 Z o0 b0 b1 h0 n0) ({ frames := 0, cells := 0, slots := 0, locals := 0 } : Room).cells ({ frames := 0, cells := 0, slots := 0, locals := 0 } : Room).slots) (s₁.setTop (entryFrame m #[(.ref o0)] 1))
  rw [ef_8_2 m o0]
  show Runs p e below _ (s₁.setTop (mkF m 0 #[.val (.ref o0)] []))
  refine Runs.by (fun _ hr => XS.aloadN X0.here hx rfl (hb hby d8_0) rfl rfl hr) ?_
  show Runs p e below _ (s₁.setTop (mkF m 1 #[.val (.ref o0)] [(.ref o0)]))
  obtain ⟨T1, X1, e1, st1⟩ := getS2 X0 hx hZ hown (host := "") (Or.inl (hw _ (List.mem_of_getElem? (i := 48) rfl))) Via.refl e0 S0 (g := (mkF m 1 #[.val (.ref o0)] [(.ref o0)])) rfl (hb hby d8_1)
  refine Runs.by st1 ?_
  show Runs p e below _ (T1.setTop (mkF m 4 #[.val (.ref o0)] [(.ref b0), (.ref o0)]))
  by_cases ha4 : o0 = b0
  · -- pc 4: the same
    refine Runs.by (fun _ hr => Jvm.RoadKit.acmp (g := (mkF m 4 #[.val (.ref o0)] [(.ref b0), (.ref o0)])) X1 hx rfl rfl rfl (pc0 := 4) (pc' := 18) (same := true) rfl (hb hby d8_4) rfl (decide_eq_true (congrArg Value.ref ha4)) (by decide) (by decide) hr) ?_
    show Runs p e below _ (T1.setTop (mkF m 18 #[.val (.ref o0)] []))
    refine Runs.by (fun _ hr => XS.iconst X1.here hx rfl (hb hby d8_18) hr) ?_
    show Runs p e below _ (T1.setTop (mkF m 19 #[.val (.ref o0)] [(.int (0 : Int32))]))
    refine Runs.ret X1 hx hrt hlk (Or.inl ⟨rfl, by simp, _, rfl⟩) (by rfl) (hb hby d8_19) (by decide) (by decide) ?_
    rw [e1]
    exact ⟨by simp [own_ord, *], N0, rfl⟩
  · -- pc 4: not the same
    refine Runs.by (fun _ hr => Jvm.RoadKit.acmp (g := (mkF m 4 #[.val (.ref o0)] [(.ref b0), (.ref o0)])) X1 hx rfl rfl rfl (pc0 := 4) (pc' := 7) (same := false) rfl (hb hby d8_4) rfl (decide_eq_false fun q => ha4 (Value.ref.inj q)) (by decide) (by decide) hr) ?_
    show Runs p e below _ (T1.setTop (mkF m 7 #[.val (.ref o0)] []))
    refine Runs.by (fun _ hr => XS.aloadN X1.here hx rfl (hb hby d8_7) rfl rfl hr) ?_
    show Runs p e below _ (T1.setTop (mkF m 8 #[.val (.ref o0)] [(.ref o0)]))
    obtain ⟨T2, X2, e2, st2⟩ := getS2 X1 hx hZ hown (host := "") (Or.inl (hw _ (List.mem_of_getElem? (i := 51) rfl))) Via.refl e1 S1 (g := (mkF m 8 #[.val (.ref o0)] [(.ref o0)])) rfl (hb hby d8_8)
    refine Runs.by st2 ?_
    show Runs p e below _ (T2.setTop (mkF m 11 #[.val (.ref o0)] [(.ref b1), (.ref o0)]))
    by_cases ha11 : o0 = b1
    · -- pc 11: the same
      refine Runs.by (fun _ hr => Jvm.RoadKit.acmp (g := (mkF m 11 #[.val (.ref o0)] [(.ref b1), (.ref o0)])) X2 hx rfl rfl rfl (pc0 := 11) (pc' := 18) (same := true) rfl (hb hby d8_11) rfl (decide_eq_true (congrArg Value.ref ha11)) (by decide) (by decide) hr) ?_
      show Runs p e below _ (T2.setTop (mkF m 18 #[.val (.ref o0)] []))
      refine Runs.by (fun _ hr => XS.iconst X2.here hx rfl (hb hby d8_18) hr) ?_
      show Runs p e below _ (T2.setTop (mkF m 19 #[.val (.ref o0)] [(.int (0 : Int32))]))
      refine Runs.ret X2 hx hrt hlk (Or.inl ⟨rfl, by simp, _, rfl⟩) (by rfl) (hb hby d8_19) (by decide) (by decide) ?_
      rw [e2]
      exact ⟨by simp [own_ord, *], N0, rfl⟩
    · -- pc 11: not the same
      refine Runs.by (fun _ hr => Jvm.RoadKit.acmp (g := (mkF m 11 #[.val (.ref o0)] [(.ref b1), (.ref o0)])) X2 hx rfl rfl rfl (pc0 := 11) (pc' := 14) (same := false) rfl (hb hby d8_11) rfl (decide_eq_false fun q => ha11 (Value.ref.inj q)) (by decide) (by decide) hr) ?_
      show Runs p e below _ (T2.setTop (mkF m 14 #[.val (.ref o0)] []))
      refine Runs.by (fun _ hr => XS.iconst X2.here hx rfl (hb hby d8_14) hr) ?_
      show Runs p e below _ (T2.setTop (mkF m 15 #[.val (.ref o0)] [(.int (1 : Int32))]))
      refine Runs.by (fun _ hr => XS.goto X2.here hx rfl (pc0 := 15) (pc' := 19) rfl (hb hby d8_15) (by decide) (by decide) hr) ?_
      show Runs p e below _ (T2.setTop (mkF m 19 #[.val (.ref o0)] [(.int (1 : Int32))]))
      refine Runs.ret X2 hx hrt hlk (Or.inl ⟨rfl, by simp, _, rfl⟩) (by rfl) (hb hby d8_19) (by decide) (by decide) ?_
      rw [e2]
      exact ⟨by simp [own_ord, *], N0, rfl⟩
theorem d4_0 : decode jdk_42_method_154_code 0 = .ok (.getstatic 38, 3) := by decide +kernel
theorem d4_3 : decode jdk_42_method_154_code 3 = .ok (.ifCond .eq 14, 3) := by decide +kernel
theorem d4_6 : decode jdk_42_method_154_code 6 = .ok (.aload_n 0, 1) := by decide +kernel
theorem d4_7 : decode jdk_42_method_154_code 7 = .ok (.getfield 15, 3) := by decide +kernel
theorem d4_10 : decode jdk_42_method_154_code 10 = .ok (.ifCond .ne 7, 3) := by decide +kernel
theorem d4_13 : decode jdk_42_method_154_code 13 = .ok (.iconst 1, 1) := by decide +kernel
theorem d4_14 : decode jdk_42_method_154_code 14 = .ok (.goto 4, 3) := by decide +kernel
theorem d4_17 : decode jdk_42_method_154_code 17 = .ok (.iconst 0, 1) := by decide +kernel
theorem d4_18 : decode jdk_42_method_154_code 18 = .ok (.ireturn, 1) := by decide +kernel
theorem ef_4_3 (m : MethodId) (o0 : Addr) : entryFrame m #[(.ref o0)] 1 = mkF m 0 #[.val (.ref o0)] [] := by first | (simp [entryFrame, mkF, argsToLocals, Value.category]; done) | rfl
theorem pn_java_lang_String : plainName "java/lang/String" = true := by first | (simp [plainName, overriddenIn]; done) | decide +kernel
def Q_rm4 (Z : State) (o0 : Addr) (gC : Int32) (h0 : Heap) (n0 : Nat) (v : Option Value) (h : Heap) (L : List Loc) : Prop := v = some (.int 1) ∧ Fr n0 L ∧ h = h0
set_option maxRecDepth 65536 in
set_option maxHeartbeats 40000000 in
theorem rm4 (l : Launch) (Z : State) (a0 : Array Value) (hw : ∀ d ∈ tables_1, d.before a0 Z = true) (ws : List Jvm.Cond) (o0 : Addr) (gC : Int32) (h0 : Heap) (n0 : Nat) (Z0 : n0 ≤ h0.size) (SC : Sta Z h0 "java/lang/String" "COMPACT_STRINGS" "Z" (.int gC)) (cC : ¬ (gC = (0 : Int32))) (FC : Fld Z h0 o0 "java/lang/String" "coder" "B" (.int (0 : Int32))) :
    MetFree l (⟨"java/lang/String", "isLatin1", "()Z"⟩ : MethodName) (head1 (Jvm.Cond.code (⟨"java/lang/String", "isLatin1", "()Z"⟩ : MethodName) jdk_42_method_154_code 1 (some .boolean) :: ws) ({ frames := 0, cells := 0, slots := 0, locals := 0 } : Room)) (fun a U => a = #[(.ref o0)] ∧ Z.Warmed39 U.vm ∧ U.heap = h0) (fun _ _ _ _ _ => True) (fun _ U o U' => ∃ v L, o = .returned v ∧ Q_rm4 Z o0 gC h0 n0 v U'.heap L ∧ FrameEnd U o U' L ({ frames := 0, cells := 0, slots := 0, locals := 0 } : Room).cells ({ frames := 0, cells := 0, slots := 0, locals := 0 } : Room).slots) := by
  refine MetFree.of_bodySF (plainFor_of_name pn_java_lang_String) hisR ?_
  intro p e s m args below meth c s₁ Bd hml0 hP hK
  obtain ⟨rfl, hZ, hh⟩ := hP
  have hx := Bd.exec
  have hby := Bd.bytes
  have hlk := BodyLoose.notSynchronized Bd
  have hrt := Bd.returns
  have hml : c.maxLocals = 1 := hml0
  have hown : s.vm.findClass "java/lang/String" = some m.cls := findClass_of_methodNamed Bd.named
  have hnm := (name_of_methodNamed Bd.named Bd.method).1
  have X0 : Stand p l e ({ frames := 0, cells := 0, slots := 0, locals := 0 } : Room) s m #[(.ref o0)] below meth c s₁ [] 0 0 := Stand.of_body Bd
  have e0 : s₁.heap = h0 := by rw [← hh, Bd.state]; rfl
  have N0 := Fr.nil n0
  have K0 : Keep h0 h0 [] := Keep.refl h0 _
  show Runs p e below (QE s (Q_rm4 Z o0 gC h0 n0) ({ frames := 0, cells := 0, slots := 0, locals := 0 } : Room).cells ({ frames := 0, cells := 0, slots := 0, locals := 0 } : Room).slots) (s₁.setTop (entryFrame m #[(.ref o0)] 1))
  rw [ef_4_3 m o0]
  show Runs p e below _ (s₁.setTop (mkF m 0 #[.val (.ref o0)] []))
  obtain ⟨T1, X1, e1, st1⟩ := getS2 X0 hx hZ hown (host := "") (Or.inl (hw _ (List.mem_of_getElem? (i := 26) rfl))) Via.refl e0 SC (g := (mkF m 0 #[.val (.ref o0)] [])) rfl (hb hby d4_0)
  refine Runs.by st1 ?_
  show Runs p e below _ (T1.setTop (mkF m 3 #[.val (.ref o0)] [(.int gC)]))
  have hc3 : ¬ (gC = (0 : Int32)) := cC
  refine Runs.by (fun _ hr => XS.ifNo X1.here hx rfl (hb hby d4_3) rfl ((if0 _ _).trans (feq hc3).1) hr) ?_
  show Runs p e below _ (T1.setTop (mkF m 6 #[.val (.ref o0)] []))
  refine Runs.by (fun _ hr => XS.aloadN X1.here hx rfl (hb hby d4_6) rfl rfl hr) ?_
  show Runs p e below _ (T1.setTop (mkF m 7 #[.val (.ref o0)] [(.ref o0)]))
  obtain ⟨T2, X2, e2, st2⟩ := getF X1 hx hZ hown (host := "") (Or.inl (hw _ (List.mem_of_getElem? (i := 27) rfl))) Via.refl e1 FC (g := (mkF m 7 #[.val (.ref o0)] [(.ref o0)])) rfl rfl (hb hby d4_7)
  refine Runs.by st2 ?_
  show Runs p e below _ (T2.setTop (mkF m 10 #[.val (.ref o0)] [(.int (0 : Int32))]))
  have hc10 : (0 : Int32) = (0 : Int32) := (by decide)
  refine Runs.by (fun _ hr => XS.ifNo X2.here hx rfl (hb hby d4_10) rfl ((if0 _ _).trans (teq hc10).2) hr) ?_
  show Runs p e below _ (T2.setTop (mkF m 13 #[.val (.ref o0)] []))
  refine Runs.by (fun _ hr => XS.iconst X2.here hx rfl (hb hby d4_13) hr) ?_
  show Runs p e below _ (T2.setTop (mkF m 14 #[.val (.ref o0)] [(.int (1 : Int32))]))
  refine Runs.by (fun _ hr => XS.goto X2.here hx rfl (pc0 := 14) (pc' := 18) rfl (hb hby d4_14) (by decide) (by decide) hr) ?_
  show Runs p e below _ (T2.setTop (mkF m 18 #[.val (.ref o0)] [(.int (1 : Int32))]))
  refine Runs.ret X2 hx hrt hlk (Or.inl ⟨rfl, by simp, _, rfl⟩) (by rfl) (hb hby d4_18) (by decide) (by decide) ?_
  rw [e2]
  exact ⟨rfl, N0, rfl⟩
theorem d7_0 : decode jdk_41_method_11_code 0 = .ok (.iload_n 0, 1) := by decide +kernel
theorem d7_1 : decode jdk_41_method_11_code 1 = .ok (.ifCond .lt 8, 3) := by decide +kernel
theorem d7_4 : decode jdk_41_method_11_code 4 = .ok (.iload_n 0, 1) := by decide +kernel
theorem d7_5 : decode jdk_41_method_11_code 5 = .ok (.iload_n 1, 1) := by decide +kernel
theorem d7_6 : decode jdk_41_method_11_code 6 = .ok (.if_icmp .lt 10, 3) := by decide +kernel
theorem d7_16 : decode jdk_41_method_11_code 16 = .ok (.iload_n 0, 1) := by decide +kernel
theorem d7_17 : decode jdk_41_method_11_code 17 = .ok (.ireturn, 1) := by decide +kernel
theorem ef_7_4 (m : MethodId) (p0 : Int32) (p1 : Int32) (vG : Value) (hvG : vG.isRef = true) : entryFrame m #[(.int p0), (.int p1), vG] 3 = mkF m 0 #[.val (.int p0), .val (.int p1), .val vG] [] := by rcases ref_cases hvG with rfl | ⟨_, rfl⟩ <;> first | (simp [entryFrame, mkF, argsToLocals, Value.category]; done) | rfl
theorem pn_jdk_internal_util_Preconditions : plainName "jdk/internal/util/Preconditions" = true := by first | (simp [plainName, overriddenIn]; done) | decide +kernel
def Q_rm7 (Z : State) (p0 : Int32) (p1 : Int32) (vG : Value)  (h0 : Heap) (n0 : Nat) (v : Option Value) (h : Heap) (L : List Loc) : Prop := v = some (.int p0) ∧ Fr n0 L ∧ h = h0
set_option maxRecDepth 65536 in
set_option maxHeartbeats 40000000 in
theorem rm7 (l : Launch) (Z : State) (a0 : Array Value) (hw : ∀ d ∈ tables_1, d.before a0 Z = true) (ws : List Jvm.Cond) (p0 : Int32) (p1 : Int32) (vG : Value)  (h0 : Heap) (n0 : Nat) (Z0 : n0 ≤ h0.size) (hvG : vG.isRef = true) (hin : ¬ (p0 < 0) ∧ p0 < p1) :
    MetFree l (⟨"jdk/internal/util/Preconditions", "checkIndex", "(IILjava/util/function/BiFunction;)I"⟩ : MethodName) (head1 (Jvm.Cond.code (⟨"jdk/internal/util/Preconditions", "checkIndex", "(IILjava/util/function/BiFunction;)I"⟩ : MethodName) jdk_41_method_11_code 3 (some .int) :: ws) ({ frames := 0, cells := 0, slots := 0, locals := 0 } : Room)) (fun a U => a = #[(.int p0), (.int p1), vG] ∧ Z.Warmed39 U.vm ∧ U.heap = h0) (fun _ _ _ _ _ => True) (fun _ U o U' => ∃ v L, o = .returned v ∧ Q_rm7 Z p0 p1 vG h0 n0 v U'.heap L ∧ FrameEnd U o U' L ({ frames := 0, cells := 0, slots := 0, locals := 0 } : Room).cells ({ frames := 0, cells := 0, slots := 0, locals := 0 } : Room).slots) := by
  refine MetFree.of_bodySF (plainFor_of_name pn_jdk_internal_util_Preconditions) hisR ?_
  intro p e s m args below meth c s₁ Bd hml0 hP hK
  obtain ⟨rfl, hZ, hh⟩ := hP
  have hx := Bd.exec
  have hby := Bd.bytes
  have hlk := BodyLoose.notSynchronized Bd
  have hrt := Bd.returns
  have hml : c.maxLocals = 3 := hml0
  have hown : s.vm.findClass "jdk/internal/util/Preconditions" = some m.cls := findClass_of_methodNamed Bd.named
  have hnm := (name_of_methodNamed Bd.named Bd.method).1
  have X0 : Stand p l e ({ frames := 0, cells := 0, slots := 0, locals := 0 } : Room) s m #[(.int p0), (.int p1), vG] below meth c s₁ [] 0 0 := Stand.of_body Bd
  have e0 : s₁.heap = h0 := by rw [← hh, Bd.state]; rfl
  have N0 := Fr.nil n0
  have K0 : Keep h0 h0 [] := Keep.refl h0 _
  show Runs p e below (QE s (Q_rm7 Z p0 p1 vG h0 n0) ({ frames := 0, cells := 0, slots := 0, locals := 0 } : Room).cells ({ frames := 0, cells := 0, slots := 0, locals := 0 } : Room).slots) (s₁.setTop (entryFrame m #[(.int p0), (.int p1), vG] 3))
  rw [ef_7_4 m p0 p1 vG hvG]
  show Runs p e below _ (s₁.setTop (mkF m 0 #[.val (.int p0), .val (.int p1), .val vG] []))
  refine Runs.by (fun _ hr => XS.iloadN X0.here hx rfl (hb hby d7_0) rfl  hr) ?_
  show Runs p e below _ (s₁.setTop (mkF m 1 #[.val (.int p0), .val (.int p1), .val vG] [(.int p0)]))
  have hc1 : ¬ (p0 < (0 : Int32)) := hin.1
  refine Runs.by (fun _ hr => XS.ifNo X0.here hx rfl (hb hby d7_1) rfl ((if0 _ _).trans (flt hc1).1) hr) ?_
  show Runs p e below _ (s₁.setTop (mkF m 4 #[.val (.int p0), .val (.int p1), .val vG] []))
  refine Runs.by (fun _ hr => XS.iloadN X0.here hx rfl (hb hby d7_4) rfl  hr) ?_
  show Runs p e below _ (s₁.setTop (mkF m 5 #[.val (.int p0), .val (.int p1), .val vG] [(.int p0)]))
  refine Runs.by (fun _ hr => XS.iloadN X0.here hx rfl (hb hby d7_5) rfl  hr) ?_
  show Runs p e below _ (s₁.setTop (mkF m 6 #[.val (.int p0), .val (.int p1), .val vG] [(.int p1), (.int p0)]))
  have hc6 : p0 < p1 := hin.2
  refine Runs.by (fun _ hr => XS.icmpYes X0.here hx rfl (pc0 := 6) (pc' := 16) rfl (hb hby d7_6) rfl (tlt hc6).1 (by decide) (by decide) hr) ?_
  show Runs p e below _ (s₁.setTop (mkF m 16 #[.val (.int p0), .val (.int p1), .val vG] []))
  refine Runs.by (fun _ hr => XS.iloadN X0.here hx rfl (hb hby d7_16) rfl  hr) ?_
  show Runs p e below _ (s₁.setTop (mkF m 17 #[.val (.int p0), .val (.int p1), .val vG] [(.int p0)]))
  refine Runs.ret X0 hx hrt hlk (Or.inl ⟨rfl, by simp, _, rfl⟩) rfl (hb hby d7_17) (by decide) (by decide) ?_
  rw [e0]
  exact ⟨rfl, N0, rfl⟩
theorem d6_0 : decode jdk_42_method_155_code 0 = .ok (.iload_n 0, 1) := by decide +kernel
theorem d6_1 : decode jdk_42_method_155_code 1 = .ok (.iload_n 1, 1) := by decide +kernel
theorem d6_2 : decode jdk_42_method_155_code 2 = .ok (.getstatic 1053, 3) := by decide +kernel
theorem d6_5 : decode jdk_42_method_155_code 5 = .ok (.invokestatic 1059, 3) := by decide +kernel
theorem d6_8 : decode jdk_42_method_155_code 8 = .ok (.pop, 1) := by decide +kernel
theorem d6_9 : decode jdk_42_method_155_code 9 = .ok (.return_, 1) := by decide +kernel
theorem ef_6_5 (m : MethodId) (p0 : Int32) (p1 : Int32) : entryFrame m #[(.int p0), (.int p1)] 2 = mkF m 0 #[.val (.int p0), .val (.int p1)] [] := by first | (simp [entryFrame, mkF, argsToLocals, Value.category]; done) | rfl
def Q_rm6 (Z : State) (p0 : Int32) (p1 : Int32) (vG : Value) (h0 : Heap) (n0 : Nat) (v : Option Value) (h : Heap) (L : List Loc) : Prop := v = none ∧ Fr n0 L ∧ h = h0
theorem pd_0 : parseMethodDescriptor "(IILjava/util/function/BiFunction;)I" = some ⟨[.int, .int, (.object "java/util/function/BiFunction")], some .int⟩ := by decide +kernel
set_option maxRecDepth 65536 in
set_option maxHeartbeats 40000000 in
theorem rm6 (l : Launch) (Z : State) (a0 : Array Value) (hw : ∀ d ∈ tables_1, d.before a0 Z = true) (ws : List Jvm.Cond) (p0 : Int32) (p1 : Int32) (vG : Value) (h0 : Heap) (n0 : Nat) (Z0 : n0 ≤ h0.size) (hvG : vG.isRef = true) (hin : ¬ (p0 < 0) ∧ p0 < p1) (SG : Sta Z h0 "jdk/internal/util/Preconditions" "SIOOBE_FORMATTER" "Ljava/util/function/BiFunction;" vG) :
    MetFree l (⟨"java/lang/String", "checkIndex", "(II)V"⟩ : MethodName) (head1 (Jvm.Cond.code (⟨"java/lang/String", "checkIndex", "(II)V"⟩ : MethodName) jdk_42_method_155_code 2 none :: ws) ({ frames := 1, cells := 0, slots := 0, locals := 14 } : Room)) (fun a U => a = #[(.int p0), (.int p1)] ∧ Z.Warmed39 U.vm ∧ U.heap = h0) (fun _ _ _ _ _ => True) (fun _ U o U' => ∃ v L, o = .returned v ∧ Q_rm6 Z p0 p1 vG h0 n0 v U'.heap L ∧ FrameEnd U o U' L ({ frames := 1, cells := 0, slots := 0, locals := 14 } : Room).cells ({ frames := 1, cells := 0, slots := 0, locals := 14 } : Room).slots) := by
  refine MetFree.of_bodySF (plainFor_of_name pn_java_lang_String) hisR ?_
  intro p e s m args below meth c s₁ Bd hml0 hP hK
  obtain ⟨rfl, hZ, hh⟩ := hP
  have hx := Bd.exec
  have hby := Bd.bytes
  have hlk := BodyLoose.notSynchronized Bd
  have hrt := Bd.returns
  have hml : c.maxLocals = 2 := hml0
  have hown : s.vm.findClass "java/lang/String" = some m.cls := findClass_of_methodNamed Bd.named
  have hnm := (name_of_methodNamed Bd.named Bd.method).1
  have X0 : Stand p l e ({ frames := 1, cells := 0, slots := 0, locals := 14 } : Room) s m #[(.int p0), (.int p1)] below meth c s₁ [] 0 0 := Stand.of_body Bd
  have e0 : s₁.heap = h0 := by rw [← hh, Bd.state]; rfl
  have N0 := Fr.nil n0
  have K0 : Keep h0 h0 [] := Keep.refl h0 _
  show Runs p e below (QE s (Q_rm6 Z p0 p1 vG h0 n0) ({ frames := 1, cells := 0, slots := 0, locals := 14 } : Room).cells ({ frames := 1, cells := 0, slots := 0, locals := 14 } : Room).slots) (s₁.setTop (entryFrame m #[(.int p0), (.int p1)] 2))
  rw [ef_6_5 m p0 p1]
  show Runs p e below _ (s₁.setTop (mkF m 0 #[.val (.int p0), .val (.int p1)] []))
  refine Runs.by (fun _ hr => XS.iloadN X0.here hx rfl (hb hby d6_0) rfl  hr) ?_
  show Runs p e below _ (s₁.setTop (mkF m 1 #[.val (.int p0), .val (.int p1)] [(.int p0)]))
  refine Runs.by (fun _ hr => XS.iloadN X0.here hx rfl (hb hby d6_1) rfl  hr) ?_
  show Runs p e below _ (s₁.setTop (mkF m 2 #[.val (.int p0), .val (.int p1)] [(.int p1), (.int p0)]))
  obtain ⟨T1, X1, e1, st1⟩ := getS2 X0 hx hZ hown (host := "") (Or.inl (hw _ (List.mem_of_getElem? (i := 38) rfl))) Via.refl e0 SG (g := (mkF m 2 #[.val (.int p0), .val (.int p1)] [(.int p1), (.int p0)])) rfl (hb hby d6_2)
  refine Runs.by st1 ?_
  show Runs p e below _ (T1.setTop (mkF m 5 #[.val (.int p0), .val (.int p1)] [vG, (.int p1), (.int p0)]))
  obtain ⟨_, _, ⟨T2, L2, k2, n2⟩, -, X2, ⟨Lc2, hQ2, l2, y2, z2⟩, st2⟩ := Jvm.LawKit.callS X1 hx (y := (⟨"jdk/internal/util/Preconditions", "checkIndex", "(IILjava/util/function/BiFunction;)I"⟩ : MethodName)) hown (mvT hZ (hw _ (List.mem_of_getElem? (i := 40) rfl))) (mvT hZ (hw _ (List.mem_of_getElem? (i := 41) rfl))) (mvT hZ (hw _ (List.mem_of_getElem? (i := 39) rfl))) (mvT hZ (hw _ (List.mem_of_getElem? (i := 42) rfl))) (by decide) (backOf (W := 0) (rm7 l Z a0 hw [] p0 p1 vG  h0 n0 (Nat.le_trans Z0 K0.1) hvG hin) hZ (hw _ (List.mem_of_getElem? (i := 42) rfl)) (hw _ (List.mem_of_getElem? (i := 39) rfl)) (by decide) (by decide)) (g := (mkF m 5 #[.val (.int p0), .val (.int p1)] [vG, (.int p1), (.int p0)])) rfl (by rw [hml]; rfl) (argsL := [(.int p0), (.int p1), vG]) (rest := []) (lenOf pd_0 rfl) rfl (by show 2 * 0 + _ ≤ _; exact Nat.le_of_eq rfl) (hb hby d6_5) (fun _ _ => ⟨rfl, e1, (by decide : 0 + 0 ≤ _), (by decide : 0 + 0 ≤ _)⟩)
  dsimp only [Pt.U, Pt.locs, Pt.cells, Pt.slots] at X2 l2 y2 z2 st2 hQ2
  subst l2 y2 z2
  obtain ⟨rfl, Nq2, eq2⟩ := hQ2
  have N2 := Fr.app N0 Nq2
  refine Runs.by (fun t hr => st2 t hr) ?_
  show Runs p e below _ (T2.setTop (mkF m 8 #[.val (.int p0), .val (.int p1)] [(.int p0)]))
  refine Runs.by (fun _ hr => XS.pop X2.here hx rfl (hb hby d6_8) rfl rfl hr) ?_
  show Runs p e below _ (T2.setTop (mkF m 9 #[.val (.int p0), .val (.int p1)] []))
  refine Runs.retV X2 hx hrt hlk (hb hby d6_9) (by decide) (by decide) ?_
  rw [eq2]
  exact ⟨rfl, N2, rfl⟩
theorem d5_0 : decode jdk_43_method_2_code 0 = .ok (.iload_n 1, 1) := by decide +kernel
theorem d5_1 : decode jdk_43_method_2_code 1 = .ok (.aload_n 0, 1) := by decide +kernel
theorem d5_2 : decode jdk_43_method_2_code 2 = .ok (.arraylength, 1) := by decide +kernel
theorem d5_3 : decode jdk_43_method_2_code 3 = .ok (.invokestatic 9, 3) := by decide +kernel
theorem d5_6 : decode jdk_43_method_2_code 6 = .ok (.aload_n 0, 1) := by decide +kernel
theorem d5_7 : decode jdk_43_method_2_code 7 = .ok (.iload_n 1, 1) := by decide +kernel
theorem d5_8 : decode jdk_43_method_2_code 8 = .ok (.baload, 1) := by decide +kernel
theorem d5_9 : decode jdk_43_method_2_code 9 = .ok (.sipush 255, 3) := by decide +kernel
theorem d5_12 : decode jdk_43_method_2_code 12 = .ok (.iand, 1) := by decide +kernel
theorem d5_13 : decode jdk_43_method_2_code 13 = .ok (.i2c, 1) := by decide +kernel
theorem d5_14 : decode jdk_43_method_2_code 14 = .ok (.ireturn, 1) := by decide +kernel
theorem ef_5_6 (m : MethodId) (o0 : Addr) (p1 : Int32) : entryFrame m #[(.ref o0), (.int p1)] 2 = mkF m 0 #[.val (.ref o0), .val (.int p1)] [] := by first | (simp [entryFrame, mkF, argsToLocals, Value.category]; done) | rfl
theorem pn_java_lang_StringLatin1 : plainName "java/lang/StringLatin1" = true := by first | (simp [plainName, overriddenIn]; done) | decide +kernel
def Q_rm5 (Z : State) (o0 : Addr) (p1 : Int32) (vG : Value) (k : ClassId) (z : Int32) (vs : List Value) (dv : Value) (bb : Int32) (h0 : Heap) (n0 : Nat) (v : Option Value) (h : Heap) (L : List Loc) : Prop := v = some (.int ((bb &&& (255 : Int32)).toUInt32.toUInt16.toUInt32.toInt32)) ∧ Fr n0 L ∧ h = h0
theorem pd_1 : parseMethodDescriptor "(II)V" = some ⟨[.int, .int], none⟩ := by decide +kernel
set_option maxRecDepth 65536 in
set_option maxHeartbeats 40000000 in
theorem rm5 (l : Launch) (Z : State) (a0 : Array Value) (hw : ∀ d ∈ tables_1, d.before a0 Z = true) (ws : List Jvm.Cond) (o0 : Addr) (p1 : Int32) (vG : Value) (k : ClassId) (z : Int32) (vs : List Value) (dv : Value) (bb : Int32) (h0 : Heap) (n0 : Nat) (Z0 : n0 ≤ h0.size) (hvG : vG.isRef = true) (hin : ¬ (p1 < 0) ∧ p1 < z) (SG : Sta Z h0 "jdk/internal/util/Preconditions" "SIOOBE_FORMATTER" "Ljava/util/function/BiFunction;" vG) (V0 : Arv Z h0 o0 k .byte z vs dv) (hat : vs.getD p1.toNatClampNeg dv = .int bb) :
    MetFree l (⟨"java/lang/StringLatin1", "charAt", "([BI)C"⟩ : MethodName) (head1 (Jvm.Cond.code (⟨"java/lang/StringLatin1", "charAt", "([BI)C"⟩ : MethodName) jdk_43_method_2_code 2 (some .char) :: ws) ({ frames := 2, cells := 0, slots := 0, locals := 27 } : Room)) (fun a U => a = #[(.ref o0), (.int p1)] ∧ Z.Warmed39 U.vm ∧ U.heap = h0) (fun _ _ _ _ _ => True) (fun _ U o U' => ∃ v L, o = .returned v ∧ Q_rm5 Z o0 p1 vG k z vs dv bb h0 n0 v U'.heap L ∧ FrameEnd U o U' L ({ frames := 2, cells := 0, slots := 0, locals := 27 } : Room).cells ({ frames := 2, cells := 0, slots := 0, locals := 27 } : Room).slots) := by
  refine MetFree.of_bodySF (plainFor_of_name pn_java_lang_StringLatin1) hisR ?_
  intro p e s m args below meth c s₁ Bd hml0 hP hK
  obtain ⟨rfl, hZ, hh⟩ := hP
  have hx := Bd.exec
  have hby := Bd.bytes
  have hlk := BodyLoose.notSynchronized Bd
  have hrt := Bd.returns
  have hml : c.maxLocals = 2 := hml0
  have hown : s.vm.findClass "java/lang/StringLatin1" = some m.cls := findClass_of_methodNamed Bd.named
  have hnm := (name_of_methodNamed Bd.named Bd.method).1
  have X0 : Stand p l e ({ frames := 2, cells := 0, slots := 0, locals := 27 } : Room) s m #[(.ref o0), (.int p1)] below meth c s₁ [] 0 0 := Stand.of_body Bd
  have e0 : s₁.heap = h0 := by rw [← hh, Bd.state]; rfl
  have N0 := Fr.nil n0
  have K0 : Keep h0 h0 [] := Keep.refl h0 _
  show Runs p e below (QE s (Q_rm5 Z o0 p1 vG k z vs dv bb h0 n0) ({ frames := 2, cells := 0, slots := 0, locals := 27 } : Room).cells ({ frames := 2, cells := 0, slots := 0, locals := 27 } : Room).slots) (s₁.setTop (entryFrame m #[(.ref o0), (.int p1)] 2))
  rw [ef_5_6 m o0 p1]
  show Runs p e below _ (s₁.setTop (mkF m 0 #[.val (.ref o0), .val (.int p1)] []))
  refine Runs.by (fun _ hr => XS.iloadN X0.here hx rfl (hb hby d5_0) rfl  hr) ?_
  show Runs p e below _ (s₁.setTop (mkF m 1 #[.val (.ref o0), .val (.int p1)] [(.int p1)]))
  refine Runs.by (fun _ hr => XS.aloadN X0.here hx rfl (hb hby d5_1) rfl rfl hr) ?_
  show Runs p e below _ (s₁.setTop (mkF m 2 #[.val (.ref o0), .val (.int p1)] [(.ref o0), (.int p1)]))
  obtain ⟨cl1, Ar1, -, S1, N1', -, -⟩ := id V0
  refine Runs.by (fun t hr => X0.arraylength hx (by rw [e0]; exact Ar1.1) (State.isArrayOf_alike hZ.alike Ar1.2.1) (g := (mkF m 2 #[.val (.ref o0), .val (.int p1)] [(.ref o0), (.int p1)])) rfl rfl (hb hby d5_2) t hr) ?_
  rw [len_of S1 N1']
  show Runs p e below _ (s₁.setTop (mkF m 3 #[.val (.ref o0), .val (.int p1)] [(.int z), (.int p1)]))
  obtain ⟨_, _, ⟨T2, L2, k2, n2⟩, -, X2, ⟨Lc2, hQ2, l2, y2, z2⟩, st2⟩ := Jvm.LawKit.callS X0 hx (y := (⟨"java/lang/String", "checkIndex", "(II)V"⟩ : MethodName)) hown (mvT hZ (hw _ (List.mem_of_getElem? (i := 35) rfl))) (mvT hZ (hw _ (List.mem_of_getElem? (i := 36) rfl))) (mvT hZ (hw _ (List.mem_of_getElem? (i := 19) rfl))) (mvT hZ (hw _ (List.mem_of_getElem? (i := 37) rfl))) (by decide) (backOf (W := 0) (rm6 l Z a0 hw [] p1 z vG h0 n0 (Nat.le_trans Z0 K0.1) hvG hin SG) hZ (hw _ (List.mem_of_getElem? (i := 37) rfl)) (hw _ (List.mem_of_getElem? (i := 19) rfl)) (by decide) (by decide)) (g := (mkF m 3 #[.val (.ref o0), .val (.int p1)] [(.int z), (.int p1)])) rfl (by rw [hml]; rfl) (argsL := [(.int p1), (.int z)]) (rest := []) (lenOf pd_1 rfl) rfl (by show 2 * 0 + _ ≤ _; exact Nat.le_of_eq rfl) (hb hby d5_3) (fun _ _ => ⟨rfl, e0, (by decide : 0 + 0 ≤ _), (by decide : 0 + 0 ≤ _)⟩)
  dsimp only [Pt.U, Pt.locs, Pt.cells, Pt.slots] at X2 l2 y2 z2 st2 hQ2
  subst l2 y2 z2
  obtain ⟨rfl, Nq2, eq2⟩ := hQ2
  have N2 := Fr.app N0 Nq2
  refine Runs.by (fun t hr => st2 t hr) ?_
  show Runs p e below _ (T2.setTop (mkF m 6 #[.val (.ref o0), .val (.int p1)] []))
  refine Runs.by (fun _ hr => XS.aloadN X2.here hx rfl (hb hby d5_6) rfl rfl hr) ?_
  show Runs p e below _ (T2.setTop (mkF m 7 #[.val (.ref o0), .val (.int p1)] [(.ref o0)]))
  refine Runs.by (fun _ hr => XS.iloadN X2.here hx rfl (hb hby d5_7) rfl  hr) ?_
  show Runs p e below _ (T2.setTop (mkF m 8 #[.val (.ref o0), .val (.int p1)] [(.int p1), (.ref o0)]))
  obtain ⟨cl3, Ar3, -, S3, N3', H3, -⟩ := id V0
  have hin3 : ¬ (p1 < 0 ∨ cl3.slots.size ≤ (p1).toNatClampNeg) := inb_of S3 hin
  have hat3 := H3.at hin3 (v := (.int bb)) hat
  refine Runs.by (fun t hr => X2.baloadBytes hx (j := p1) (v := (.int bb)) (by rw [eq2]; exact Ar3.1) (State.isArrayOf_alike hZ.alike Ar3.2.1) Ar3.2.2 hin3 hat3 (g := (mkF m 8 #[.val (.ref o0), .val (.int p1)] [(.int p1), (.ref o0)])) rfl rfl (hb hby d5_8) t hr) ?_
  show Runs p e below _ (T2.setTop (mkF m 9 #[.val (.ref o0), .val (.int p1)] [(.int bb)]))
  refine Runs.by (fun _ hr => XS.sipush X2.here hx rfl (hb hby d5_9) hr) ?_
  show Runs p e below _ (T2.setTop (mkF m 12 #[.val (.ref o0), .val (.int p1)] [(.int (255 : Int32)), (.int bb)]))
  refine Runs.by (fun _ hr => XS.iand X2.here hx rfl (hb hby d5_12) rfl hr) ?_
  show Runs p e below _ (T2.setTop (mkF m 13 #[.val (.ref o0), .val (.int p1)] [(.int (bb &&& (255 : Int32)))]))
  refine Runs.by (fun _ hr => XS.i2c X2.here hx rfl (hb hby d5_13) rfl hr) ?_
  show Runs p e below _ (T2.setTop (mkF m 14 #[.val (.ref o0), .val (.int p1)] [(.int ((bb &&& (255 : Int32)).toUInt32.toUInt16.toUInt32.toInt32))]))
  refine Runs.ret X2 hx hrt hlk (Or.inl ⟨rfl, by simp, _, rfl⟩) (Jvm.Free.XT.narrow_c _) (hb hby d5_14) (by decide) (by decide) ?_
  rw [eq2]
  exact ⟨rfl, N2, rfl⟩
theorem d3_0 : decode jdk_42_method_56_code 0 = .ok (.aload_n 0, 1) := by decide +kernel
theorem d3_1 : decode jdk_42_method_56_code 1 = .ok (.invokevirtual 492, 3) := by decide +kernel
theorem d3_4 : decode jdk_42_method_56_code 4 = .ok (.ifCond .eq 12, 3) := by decide +kernel
theorem d3_7 : decode jdk_42_method_56_code 7 = .ok (.aload_n 0, 1) := by decide +kernel
theorem d3_8 : decode jdk_42_method_56_code 8 = .ok (.getfield 9, 3) := by decide +kernel
theorem d3_11 : decode jdk_42_method_56_code 11 = .ok (.iload_n 1, 1) := by decide +kernel
theorem d3_12 : decode jdk_42_method_56_code 12 = .ok (.invokestatic 495, 3) := by decide +kernel
theorem d3_15 : decode jdk_42_method_56_code 15 = .ok (.ireturn, 1) := by decide +kernel
theorem ef_3_7 (m : MethodId) (o0 : Addr) (p1 : Int32) : entryFrame m #[(.ref o0), (.int p1)] 2 = mkF m 0 #[.val (.ref o0), .val (.int p1)] [] := by first | (simp [entryFrame, mkF, argsToLocals, Value.category]; done) | rfl
def Q_rm3 (Z : State) (o0 : Addr) (p1 : Int32) (gC : Int32) (vG : Value) (va : Addr) (k : ClassId) (z : Int32) (vs : List Value) (dv : Value) (bb : Int32) (h0 : Heap) (n0 : Nat) (v : Option Value) (h : Heap) (L : List Loc) : Prop := v = some (.int ((bb &&& (255 : Int32)).toUInt32.toUInt16.toUInt32.toInt32)) ∧ Fr n0 L ∧ h = h0
theorem pd_2 : parseMethodDescriptor "()Z" = some ⟨[], some .boolean⟩ := by decide +kernel
theorem pd_3 : parseMethodDescriptor "([BI)C" = some ⟨[(.array .byte), .int], some .char⟩ := by decide +kernel
set_option maxRecDepth 65536 in
set_option maxHeartbeats 40000000 in
theorem rm3 (l : Launch) (Z : State) (a0 : Array Value) (hw : ∀ d ∈ tables_1, d.before a0 Z = true) (ws : List Jvm.Cond) (o0 : Addr) (p1 : Int32) (gC : Int32) (vG : Value) (va : Addr) (k : ClassId) (z : Int32) (vs : List Value) (dv : Value) (bb : Int32) (h0 : Heap) (n0 : Nat) (Z0 : n0 ≤ h0.size) (E0 : Exa Z h0 o0 "java/lang/String") (SC : Sta Z h0 "java/lang/String" "COMPACT_STRINGS" "Z" (.int gC)) (cC : ¬ (gC = (0 : Int32))) (FC : Fld Z h0 o0 "java/lang/String" "coder" "B" (.int (0 : Int32))) (FV : Fld Z h0 o0 "java/lang/String" "value" "[B" (.ref va)) (hvG : vG.isRef = true) (hin : ¬ (p1 < 0) ∧ p1 < z) (SG : Sta Z h0 "jdk/internal/util/Preconditions" "SIOOBE_FORMATTER" "Ljava/util/function/BiFunction;" vG) (V0 : Arv Z h0 va k .byte z vs dv) (hat : vs.getD p1.toNatClampNeg dv = .int bb) :
    MetFree l (⟨"java/lang/String", "charAt", "(I)C"⟩ : MethodName) (head1 (Jvm.Cond.code (⟨"java/lang/String", "charAt", "(I)C"⟩ : MethodName) jdk_42_method_56_code 2 (some .char) :: ws) ({ frames := 3, cells := 0, slots := 0, locals := 40 } : Room)) (fun a U => a = #[(.ref o0), (.int p1)] ∧ Z.Warmed39 U.vm ∧ U.heap = h0) (fun _ _ _ _ _ => True) (fun _ U o U' => ∃ v L, o = .returned v ∧ Q_rm3 Z o0 p1 gC vG va k z vs dv bb h0 n0 v U'.heap L ∧ FrameEnd U o U' L ({ frames := 3, cells := 0, slots := 0, locals := 40 } : Room).cells ({ frames := 3, cells := 0, slots := 0, locals := 40 } : Room).slots) := by
  refine MetFree.of_bodySF (plainFor_of_name pn_java_lang_String) hisR ?_
  intro p e s m args below meth c s₁ Bd hml0 hP hK
  obtain ⟨rfl, hZ, hh⟩ := hP
  have hx := Bd.exec
  have hby := Bd.bytes
  have hlk := BodyLoose.notSynchronized Bd
  have hrt := Bd.returns
  have hml : c.maxLocals = 2 := hml0
  have hown : s.vm.findClass "java/lang/String" = some m.cls := findClass_of_methodNamed Bd.named
  have hnm := (name_of_methodNamed Bd.named Bd.method).1
  have X0 : Stand p l e ({ frames := 3, cells := 0, slots := 0, locals := 40 } : Room) s m #[(.ref o0), (.int p1)] below meth c s₁ [] 0 0 := Stand.of_body Bd
  have e0 : s₁.heap = h0 := by rw [← hh, Bd.state]; rfl
  have N0 := Fr.nil n0
  have K0 : Keep h0 h0 [] := Keep.refl h0 _
  show Runs p e below (QE s (Q_rm3 Z o0 p1 gC vG va k z vs dv bb h0 n0) ({ frames := 3, cells := 0, slots := 0, locals := 40 } : Room).cells ({ frames := 3, cells := 0, slots := 0, locals := 40 } : Room).slots) (s₁.setTop (entryFrame m #[(.ref o0), (.int p1)] 2))
  rw [ef_3_7 m o0 p1]
  show Runs p e below _ (s₁.setTop (mkF m 0 #[.val (.ref o0), .val (.int p1)] []))
  refine Runs.by (fun _ hr => XS.aloadN X0.here hx rfl (hb hby d3_0) rfl rfl hr) ?_
  show Runs p e below _ (s₁.setTop (mkF m 1 #[.val (.ref o0), .val (.int p1)] [(.ref o0)]))
  obtain ⟨cq1, kq1, q1a, q1b, q1c⟩ := isOf hZ e0 E0
  obtain ⟨_, _, ⟨T1, L1, k1, n1⟩, -, X1, ⟨Lc1, hQ1, l1, y1, z1⟩, st1⟩ := X0.virtualBack hx (y := (⟨"java/lang/String", "isLatin1", "()Z"⟩ : MethodName)) (z := (⟨"java/lang/String", "isLatin1", "()Z"⟩ : MethodName)) hown (mvT hZ (hw _ (List.mem_of_getElem? (i := 21) rfl))) (mvT hZ (hw _ (List.mem_of_getElem? (i := 22) rfl))) (notFace_of_selects (args := #[]) (mvT hZ (hw _ (List.mem_of_getElem? (i := 24) rfl)))) (mvT hZ (hw _ (List.mem_of_getElem? (i := 24) rfl))) (mvT hZ (hw _ (List.mem_of_getElem? (i := 23) rfl))) (by decide) (backOf (W := 0) (rm4 l Z a0 hw [] o0 gC h0 n0 (Nat.le_trans Z0 K0.1) SC cC FC) hZ (hw _ (List.mem_of_getElem? (i := 25) rfl)) (hw _ (List.mem_of_getElem? (i := 19) rfl)) (by decide) (by decide)) q1a q1c (g := (mkF m 1 #[.val (.ref o0), .val (.int p1)] [(.ref o0)])) rfl (by rw [hml]; rfl) (Steps.refl _) (argsL := []) (rest := []) (lenOf pd_2 rfl) rfl (by show 2 * 0 + _ ≤ _; exact Nat.le_of_eq rfl) (hb hby d3_1) (fun _ _ => ⟨rfl, e0, (by decide : 0 + 0 ≤ _), (by decide : 0 + 0 ≤ _)⟩)
  dsimp only [Pt.U, Pt.locs, Pt.cells, Pt.slots] at X1 l1 y1 z1 st1 hQ1
  subst l1 y1 z1
  obtain ⟨rfl, Nq1, eq1⟩ := hQ1
  have N1 := Fr.app N0 Nq1
  refine Runs.by (fun _ hr => st1.trans hr) ?_
  show Runs p e below _ (T1.setTop (mkF m 4 #[.val (.ref o0), .val (.int p1)] [(.int (1 : Int32))]))
  have hc4 : ¬ ((1 : Int32) = (0 : Int32)) := (by decide)
  refine Runs.by (fun _ hr => XS.ifNo X1.here hx rfl (hb hby d3_4) rfl ((if0 _ _).trans (feq hc4).1) hr) ?_
  show Runs p e below _ (T1.setTop (mkF m 7 #[.val (.ref o0), .val (.int p1)] []))
  refine Runs.by (fun _ hr => XS.aloadN X1.here hx rfl (hb hby d3_7) rfl rfl hr) ?_
  show Runs p e below _ (T1.setTop (mkF m 8 #[.val (.ref o0), .val (.int p1)] [(.ref o0)]))
  obtain ⟨T2, X2, e2, st2⟩ := getF X1 hx hZ hown (host := "") (Or.inl (hw _ (List.mem_of_getElem? (i := 29) rfl))) Via.refl eq1 FV (g := (mkF m 8 #[.val (.ref o0), .val (.int p1)] [(.ref o0)])) rfl rfl (hb hby d3_8)
  refine Runs.by st2 ?_
  show Runs p e below _ (T2.setTop (mkF m 11 #[.val (.ref o0), .val (.int p1)] [(.ref va)]))
  refine Runs.by (fun _ hr => XS.iloadN X2.here hx rfl (hb hby d3_11) rfl  hr) ?_
  show Runs p e below _ (T2.setTop (mkF m 12 #[.val (.ref o0), .val (.int p1)] [(.int p1), (.ref va)]))
  obtain ⟨_, _, ⟨T3, L3, k3, n3⟩, -, X3, ⟨Lc3, hQ3, l3, y3, z3⟩, st3⟩ := Jvm.LawKit.callS X2 hx (y := (⟨"java/lang/StringLatin1", "charAt", "([BI)C"⟩ : MethodName)) hown (mvT hZ (hw _ (List.mem_of_getElem? (i := 31) rfl))) (mvT hZ (hw _ (List.mem_of_getElem? (i := 32) rfl))) (mvT hZ (hw _ (List.mem_of_getElem? (i := 33) rfl))) (mvT hZ (hw _ (List.mem_of_getElem? (i := 34) rfl))) (by decide) (backOf (W := 0) (rm5 l Z a0 hw [] va p1 vG k z vs dv bb h0 n0 (Nat.le_trans Z0 K0.1) hvG hin SG V0 hat) hZ (hw _ (List.mem_of_getElem? (i := 34) rfl)) (hw _ (List.mem_of_getElem? (i := 33) rfl)) (by decide) (by decide)) (g := (mkF m 12 #[.val (.ref o0), .val (.int p1)] [(.int p1), (.ref va)])) rfl (by rw [hml]; rfl) (argsL := [(.ref va), (.int p1)]) (rest := []) (lenOf pd_3 rfl) rfl (by show 2 * 0 + _ ≤ _; exact Nat.le_of_eq rfl) (hb hby d3_12) (fun _ _ => ⟨rfl, e2, (by decide : 0 + 0 ≤ _), (by decide : 0 + 0 ≤ _)⟩)
  dsimp only [Pt.U, Pt.locs, Pt.cells, Pt.slots] at X3 l3 y3 z3 st3 hQ3
  subst l3 y3 z3
  obtain ⟨rfl, Nq3, eq3⟩ := hQ3
  have N3 := Fr.app N1 Nq3
  refine Runs.by (fun t hr => st3 t hr) ?_
  show Runs p e below _ (T3.setTop (mkF m 15 #[.val (.ref o0), .val (.int p1)] [(.int ((bb &&& (255 : Int32)).toUInt32.toUInt16.toUInt32.toInt32))]))
  refine Runs.ret X3 hx hrt hlk (Or.inl ⟨rfl, by simp, _, rfl⟩) (Jvm.Free.XT.narrow_c _) (hb hby d3_15) (by decide) (by decide) ?_
  rw [eq3]
  exact ⟨rfl, N3, rfl⟩
theorem ef_0_8 (m : MethodId) (p0 : Int32) : entryFrame m #[(.int p0)] maxLocals = mkF m 0 #[.val (.int p0), .unset, .unset, .unset, .unset, .unset, .unset, .unset] [] := by first | (simp [entryFrame, mkF, argsToLocals, Value.category, maxLocals]; done) | rfl
def Q_rm0 (Z : State) (p0 : Int32) (b0 b1 b2 b3 b4 b5 y0 y1 y2 y3 y4 y5 v0 v1 v2 v3 v4 v5 : Addr) (k0 k1 k2 k3 k4 k5 : ClassId) (gC : Int32) (vG : Value) (h0 : Heap) (n0 : Nat) (v : Option Value) (h : Heap) (L : List Loc) : Prop := v = some (.int 1) ∧ Fr n0 L
theorem pd_4 : parseMethodDescriptor "(I)Lcom/example/tollgate/tollgate/policy/Condition$Comparator;" = some ⟨[.int], some (.object "com/example/tollgate/tollgate/policy/Condition$Comparator")⟩ := by decide +kernel
theorem pd_5 : parseMethodDescriptor "()Ljava/lang/String;" = some ⟨[], some (.object "java/lang/String")⟩ := by decide +kernel
theorem pd_6 : parseMethodDescriptor "(I)C" = some ⟨[.int], some .char⟩ := by decide +kernel
set_option maxRecDepth 65536 in
set_option maxHeartbeats 40000000 in
theorem rm0 (l : Launch) (Z : State) (a0 : Array Value) (hw : ∀ d ∈ tables_1, d.before a0 Z = true) (ws : List Jvm.Cond) (p0 : Int32) (b0 b1 b2 b3 b4 b5 y0 y1 y2 y3 y4 y5 v0 v1 v2 v3 v4 v5 : Addr) (k0 k1 k2 k3 k4 k5 : ClassId) (gC : Int32) (vG : Value) (h0 : Heap) (n0 : Nat) (Z0 : n0 ≤ h0.size) (S0 : Sta Z h0 "com/example/tollgate/tollgate/policy/Condition$Comparator" "EQUAL" "Lcom/example/tollgate/tollgate/policy/Condition$Comparator;" (.ref b0)) (S1 : Sta Z h0 "com/example/tollgate/tollgate/policy/Condition$Comparator" "NOT_EQUAL" "Lcom/example/tollgate/tollgate/policy/Condition$Comparator;" (.ref b1)) (S2 : Sta Z h0 "com/example/tollgate/tollgate/policy/Condition$Comparator" "LESS" "Lcom/example/tollgate/tollgate/policy/Condition$Comparator;" (.ref b2)) (S3 : Sta Z h0 "com/example/tollgate/tollgate/policy/Condition$Comparator" "LESS_OR_EQUAL" "Lcom/example/tollgate/tollgate/policy/Condition$Comparator;" (.ref b3)) (S4 : Sta Z h0 "com/example/tollgate/tollgate/policy/Condition$Comparator" "GREATER" "Lcom/example/tollgate/tollgate/policy/Condition$Comparator;" (.ref b4)) (S5 : Sta Z h0 "com/example/tollgate/tollgate/policy/Condition$Comparator" "GREATER_OR_EQUAL" "Lcom/example/tollgate/tollgate/policy/Condition$Comparator;" (.ref b5)) (E0 : Exa Z h0 b0 "com/example/tollgate/tollgate/policy/Condition$Comparator") (E1 : Exa Z h0 b1 "com/example/tollgate/tollgate/policy/Condition$Comparator") (E2 : Exa Z h0 b2 "com/example/tollgate/tollgate/policy/Condition$Comparator") (E3 : Exa Z h0 b3 "com/example/tollgate/tollgate/policy/Condition$Comparator") (E4 : Exa Z h0 b4 "com/example/tollgate/tollgate/policy/Condition$Comparator") (E5 : Exa Z h0 b5 "com/example/tollgate/tollgate/policy/Condition$Comparator") (nE1_0 : b1 ≠ b0) (nE2_0 : b2 ≠ b0) (nE3_0 : b3 ≠ b0) (nE4_0 : b4 ≠ b0) (nE5_0 : b5 ≠ b0) (nE2_1 : b2 ≠ b1) (nE3_1 : b3 ≠ b1) (nE4_1 : b4 ≠ b1) (nE5_1 : b5 ≠ b1) (FS0 : Fld Z h0 b0 "com/example/tollgate/tollgate/policy/Condition$Comparator" "symbol" "Ljava/lang/String;" (.ref y0)) (ES0 : Exa Z h0 y0 "java/lang/String") (FC0 : Fld Z h0 y0 "java/lang/String" "coder" "B" (.int (0 : Int32))) (FV0 : Fld Z h0 y0 "java/lang/String" "value" "[B" (.ref v0)) (V0 : Arv Z h0 v0 k0 .byte (1 : Int32) [(.int (61 : Int32))] (.int (0 : Int32))) (FS1 : Fld Z h0 b1 "com/example/tollgate/tollgate/policy/Condition$Comparator" "symbol" "Ljava/lang/String;" (.ref y1)) (ES1 : Exa Z h0 y1 "java/lang/String") (FC1 : Fld Z h0 y1 "java/lang/String" "coder" "B" (.int (0 : Int32))) (FV1 : Fld Z h0 y1 "java/lang/String" "value" "[B" (.ref v1)) (V1 : Arv Z h0 v1 k1 .byte (2 : Int32) [(.int (33 : Int32)), (.int (61 : Int32))] (.int (0 : Int32))) (FS2 : Fld Z h0 b2 "com/example/tollgate/tollgate/policy/Condition$Comparator" "symbol" "Ljava/lang/String;" (.ref y2)) (ES2 : Exa Z h0 y2 "java/lang/String") (FC2 : Fld Z h0 y2 "java/lang/String" "coder" "B" (.int (0 : Int32))) (FV2 : Fld Z h0 y2 "java/lang/String" "value" "[B" (.ref v2)) (V2 : Arv Z h0 v2 k2 .byte (1 : Int32) [(.int (60 : Int32))] (.int (0 : Int32))) (FS3 : Fld Z h0 b3 "com/example/tollgate/tollgate/policy/Condition$Comparator" "symbol" "Ljava/lang/String;" (.ref y3)) (ES3 : Exa Z h0 y3 "java/lang/String") (FC3 : Fld Z h0 y3 "java/lang/String" "coder" "B" (.int (0 : Int32))) (FV3 : Fld Z h0 y3 "java/lang/String" "value" "[B" (.ref v3)) (V3 : Arv Z h0 v3 k3 .byte (2 : Int32) [(.int (60 : Int32)), (.int (61 : Int32))] (.int (0 : Int32))) (FS4 : Fld Z h0 b4 "com/example/tollgate/tollgate/policy/Condition$Comparator" "symbol" "Ljava/lang/String;" (.ref y4)) (ES4 : Exa Z h0 y4 "java/lang/String") (FC4 : Fld Z h0 y4 "java/lang/String" "coder" "B" (.int (0 : Int32))) (FV4 : Fld Z h0 y4 "java/lang/String" "value" "[B" (.ref v4)) (V4 : Arv Z h0 v4 k4 .byte (1 : Int32) [(.int (62 : Int32))] (.int (0 : Int32))) (FS5 : Fld Z h0 b5 "com/example/tollgate/tollgate/policy/Condition$Comparator" "symbol" "Ljava/lang/String;" (.ref y5)) (ES5 : Exa Z h0 y5 "java/lang/String") (FC5 : Fld Z h0 y5 "java/lang/String" "coder" "B" (.int (0 : Int32))) (FV5 : Fld Z h0 y5 "java/lang/String" "value" "[B" (.ref v5)) (V5 : Arv Z h0 v5 k5 .byte (2 : Int32) [(.int (62 : Int32)), (.int (61 : Int32))] (.int (0 : Int32))) (SC : Sta Z h0 "java/lang/String" "COMPACT_STRINGS" "Z" (.int gC)) (cC : ¬ (gC = (0 : Int32))) (SG : Sta Z h0 "jdk/internal/util/Preconditions" "SIOOBE_FORMATTER" "Ljava/util/function/BiFunction;" vG) (hvG : vG.isRef = true) :
    MetFree l x (head1 (Jvm.Cond.code x code maxLocals ret :: ws) room_1) (fun a U => a = #[(.int p0)] ∧ Z.Warmed39 U.vm ∧ U.heap = h0) (fun _ _ _ _ _ => True) (fun _ U o U' => ∃ v L, o = .returned v ∧ Q_rm0 Z p0 b0 b1 b2 b3 b4 b5 y0 y1 y2 y3 y4 y5 v0 v1 v2 v3 v4 v5 k0 k1 k2 k3 k4 k5 gC vG h0 n0 v U'.heap L ∧ FrameEnd U o U' L room_1.cells room_1.slots) := by
  refine MetFree.of_bodySF (plainFor_of_name pn_com_example_tollgate_tollgate_policy_ComparatorOrdersPinLaw) hisR ?_
  intro p e s m args below meth c s₁ Bd hml0 hP hK
  obtain ⟨rfl, hZ, hh⟩ := hP
  have hx := Bd.exec
  have hby := Bd.bytes
  have hlk := BodyLoose.notSynchronized Bd
  have hrt := Bd.returns
  have hml : c.maxLocals = 8 := hml0
  have hown : s.vm.findClass "com/example/tollgate/tollgate/policy/ComparatorOrdersPinLaw" = some m.cls := findClass_of_methodNamed Bd.named
  have hnm := (name_of_methodNamed Bd.named Bd.method).1
  have X0 : Stand p l e room_1 s m #[(.int p0)] below meth c s₁ [] 0 0 := Stand.of_body Bd
  have e0 : s₁.heap = h0 := by rw [← hh, Bd.state]; rfl
  have N0 := Fr.nil n0
  have K0 : Keep h0 h0 [] := Keep.refl h0 _
  show Runs p e below (QE s (Q_rm0 Z p0 b0 b1 b2 b3 b4 b5 y0 y1 y2 y3 y4 y5 v0 v1 v2 v3 v4 v5 k0 k1 k2 k3 k4 k5 gC vG h0 n0) room_1.cells room_1.slots) (s₁.setTop (entryFrame m #[(.int p0)] maxLocals))
  rw [ef_0_8 m p0]
  show Runs p e below _ (s₁.setTop (mkF m 0 #[.val (.int p0), .unset, .unset, .unset, .unset, .unset, .unset, .unset] []))
  refine Runs.by (fun _ hr => XS.iloadN X0.here hx rfl (hb hby at_0) rfl  hr) ?_
  show Runs p e below _ (s₁.setTop (mkF m 1 #[.val (.int p0), .unset, .unset, .unset, .unset, .unset, .unset, .unset] [(.int p0)]))
  refine Runs.by (fun _ hr => X0.ldcI hx hown (mvT hZ (hw _ (List.mem_of_getElem? (i := 0) rfl))) (g := (mkF m 1 #[.val (.int p0), .unset, .unset, .unset, .unset, .unset, .unset, .unset] [(.int p0)])) rfl (hb hby at_1) hr) ?_
  show Runs p e below _ (s₁.setTop (mkF m 3 #[.val (.int p0), .unset, .unset, .unset, .unset, .unset, .unset, .unset] [(.int (2147483647 : Int32)), (.int p0)]))
  refine Runs.by (fun _ hr => XS.iand X0.here hx rfl (hb hby at_3) rfl hr) ?_
  show Runs p e below _ (s₁.setTop (mkF m 4 #[.val (.int p0), .unset, .unset, .unset, .unset, .unset, .unset, .unset] [(.int (p0 &&& (2147483647 : Int32)))]))
  refine Runs.by (fun _ hr => XS.bipush X0.here hx rfl (hb hby at_4) hr) ?_
  show Runs p e below _ (s₁.setTop (mkF m 6 #[.val (.int p0), .unset, .unset, .unset, .unset, .unset, .unset, .unset] [(.int (6 : Int32)), (.int (p0 &&& (2147483647 : Int32)))]))
  refine Runs.by (fun _ hr => iremM X0 hx rfl (hb hby at_6) rfl (by decide) hr) ?_
  show Runs p e below _ (s₁.setTop (mkF m 7 #[.val (.int p0), .unset, .unset, .unset, .unset, .unset, .unset, .unset] [(.int ((p0 &&& (2147483647 : Int32)) % (6 : Int32)))]))
  refine Runs.by (fun _ hr => XS.istoreN X0.here hx rfl (hb hby at_7) rfl (l' := #[.val (.int p0), .val (.int ((p0 &&& (2147483647 : Int32)) % (6 : Int32))), .unset, .unset, .unset, .unset, .unset, .unset]) rfl hr) ?_
  have hk := own_mod6 p0
  generalize (p0 &&& (2147483647 : Int32)) % (6 : Int32) = kk at hk ⊢
  rcases hk with rfl | rfl | rfl | rfl | rfl | rfl
  · skip
    show Runs p e below _ (s₁.setTop (mkF m 8 #[.val (.int p0), .val (.int (0 : Int32)), .unset, .unset, .unset, .unset, .unset, .unset] []))
    refine Runs.by (fun _ hr => XS.iloadN X0.here hx rfl (hb hby at_8) rfl  hr) ?_
    show Runs p e below _ (s₁.setTop (mkF m 9 #[.val (.int p0), .val (.int (0 : Int32)), .unset, .unset, .unset, .unset, .unset, .unset] [(.int (0 : Int32))]))
    obtain ⟨_, _, ⟨T1, L1, k1, n1⟩, -, X1, ⟨Lc1, hQ1, l1, y1, z1⟩, st1⟩ := Jvm.LawKit.callS X0 hx (y := (⟨"com/example/tollgate/tollgate/policy/ComparatorOrdersPinLaw", "pick", "(I)Lcom/example/tollgate/tollgate/policy/Condition$Comparator;"⟩ : MethodName)) hown (mvT hZ (hw _ (List.mem_of_getElem? (i := 1) rfl))) (mvT hZ (hw _ (List.mem_of_getElem? (i := 2) rfl))) (mvT hZ (hw _ (List.mem_of_getElem? (i := 3) rfl))) (mvT hZ (hw _ (List.mem_of_getElem? (i := 4) rfl))) (by decide) (backOf (W := 0) (rm1 l Z a0 hw [] (0 : Int32) b0 b1 b2 b3 b4 b5 h0 n0 (Nat.le_trans Z0 K0.1) S0 S1 S2 S3 S4 S5) hZ (hw _ (List.mem_of_getElem? (i := 4) rfl)) (hw _ (List.mem_of_getElem? (i := 3) rfl)) (by decide) (by decide)) (g := (mkF m 9 #[.val (.int p0), .val (.int (0 : Int32)), .unset, .unset, .unset, .unset, .unset, .unset] [(.int (0 : Int32))])) rfl (by rw [hml]; rfl) (argsL := [(.int (0 : Int32))]) (rest := []) (lenOf pd_4 rfl) rfl (by show 2 * 0 + _ ≤ _; exact Nat.le_of_eq rfl) (hb hby at_9) (fun _ _ => ⟨rfl, e0, (by decide : 0 + 0 ≤ _), (by decide : 0 + 0 ≤ _)⟩)
    dsimp only [Pt.U, Pt.locs, Pt.cells, Pt.slots] at X1 l1 y1 z1 st1 hQ1
    subst l1 y1 z1
    obtain ⟨rfl, Nq1, eq1⟩ := hQ1
    have N1 := Fr.app N0 Nq1
    refine Runs.by (fun t hr => st1 t hr) ?_
    rw [show own_pick b0 b1 b2 b3 b4 b5 (0 : Int32) = b0 from rfl]
    show Runs p e below _ (T1.setTop (mkF m 12 #[.val (.int p0), .val (.int (0 : Int32)), .unset, .unset, .unset, .unset, .unset, .unset] [(.ref b0)]))
    refine Runs.by (fun _ hr => XS.astoreN X1.here hx rfl (hb hby at_12) rfl rfl (l' := #[.val (.int p0), .val (.int (0 : Int32)), .val (.ref b0), .unset, .unset, .unset, .unset, .unset]) rfl hr) ?_
    show Runs p e below _ (T1.setTop (mkF m 13 #[.val (.int p0), .val (.int (0 : Int32)), .val (.ref b0), .unset, .unset, .unset, .unset, .unset] []))
    refine Runs.by (fun _ hr => XS.aloadN X1.here hx rfl (hb hby at_13) rfl rfl hr) ?_
    show Runs p e below _ (T1.setTop (mkF m 14 #[.val (.int p0), .val (.int (0 : Int32)), .val (.ref b0), .unset, .unset, .unset, .unset, .unset] [(.ref b0)]))
    obtain ⟨cq2, kq2, q2a, q2b, q2c⟩ := isOf hZ eq1 E0
    obtain ⟨_, _, ⟨T2, L2, k2, n2⟩, -, X2, ⟨Lc2, hQ2, l2, y2, z2⟩, st2⟩ := X1.virtualBack hx (y := (⟨"com/example/tollgate/tollgate/policy/Condition$Comparator", "toString", "()Ljava/lang/String;"⟩ : MethodName)) (z := (⟨"com/example/tollgate/tollgate/policy/Condition$Comparator", "toString", "()Ljava/lang/String;"⟩ : MethodName)) hown (mvT hZ (hw _ (List.mem_of_getElem? (i := 8) rfl))) (mvT hZ (hw _ (List.mem_of_getElem? (i := 9) rfl))) (notFace_of_selects (args := #[]) (mvT hZ (hw _ (List.mem_of_getElem? (i := 11) rfl)))) (mvT hZ (hw _ (List.mem_of_getElem? (i := 11) rfl))) (mvT hZ (hw _ (List.mem_of_getElem? (i := 10) rfl))) (by decide) (backOf (W := 0) (rm2 l Z a0 hw [] b0 y0 h0 n0 (Nat.le_trans Z0 K0.1) FS0) hZ (hw _ (List.mem_of_getElem? (i := 12) rfl)) (hw _ (List.mem_of_getElem? (i := 6) rfl)) (by decide) (by decide)) q2a q2c (g := (mkF m 14 #[.val (.int p0), .val (.int (0 : Int32)), .val (.ref b0), .unset, .unset, .unset, .unset, .unset] [(.ref b0)])) rfl (by rw [hml]; rfl) (Steps.refl _) (argsL := []) (rest := []) (lenOf pd_5 rfl) rfl (by show 2 * 0 + _ ≤ _; exact Nat.le_of_eq rfl) (hb hby at_14) (fun _ _ => ⟨rfl, eq1, (by decide : 0 + 0 ≤ _), (by decide : 0 + 0 ≤ _)⟩)
    dsimp only [Pt.U, Pt.locs, Pt.cells, Pt.slots] at X2 l2 y2 z2 st2 hQ2
    subst l2 y2 z2
    obtain ⟨rfl, Nq2, eq2⟩ := hQ2
    have N2 := Fr.app N1 Nq2
    refine Runs.by (fun _ hr => st2.trans hr) ?_
    show Runs p e below _ (T2.setTop (mkF m 17 #[.val (.int p0), .val (.int (0 : Int32)), .val (.ref b0), .unset, .unset, .unset, .unset, .unset] [(.ref y0)]))
    refine Runs.by (fun _ hr => XS.astoreN X2.here hx rfl (hb hby at_17) rfl rfl (l' := #[.val (.int p0), .val (.int (0 : Int32)), .val (.ref b0), .val (.ref y0), .unset, .unset, .unset, .unset]) rfl hr) ?_
    show Runs p e below _ (T2.setTop (mkF m 18 #[.val (.int p0), .val (.int (0 : Int32)), .val (.ref b0), .val (.ref y0), .unset, .unset, .unset, .unset] []))
    refine Runs.by (fun _ hr => XS.aloadN X2.here hx rfl (hb hby at_18) rfl rfl hr) ?_
    show Runs p e below _ (T2.setTop (mkF m 19 #[.val (.int p0), .val (.int (0 : Int32)), .val (.ref b0), .val (.ref y0), .unset, .unset, .unset, .unset] [(.ref y0)]))
    refine Runs.by (fun _ hr => XS.iconst X2.here hx rfl (hb hby at_19) hr) ?_
    show Runs p e below _ (T2.setTop (mkF m 20 #[.val (.int p0), .val (.int (0 : Int32)), .val (.ref b0), .val (.ref y0), .unset, .unset, .unset, .unset] [(.int (0 : Int32)), (.ref y0)]))
    obtain ⟨cq3, kq3, q3a, q3b, q3c⟩ := isOf hZ eq2 ES0
    obtain ⟨_, _, ⟨T3, L3, k3, n3⟩, -, X3, ⟨Lc3, hQ3, l3, y3, z3⟩, st3⟩ := X2.virtualBack hx (y := (⟨"java/lang/String", "charAt", "(I)C"⟩ : MethodName)) (z := (⟨"java/lang/String", "charAt", "(I)C"⟩ : MethodName)) hown (mvT hZ (hw _ (List.mem_of_getElem? (i := 15) rfl))) (mvT hZ (hw _ (List.mem_of_getElem? (i := 16) rfl))) (notFace_of_selects (args := #[]) (mvT hZ (hw _ (List.mem_of_getElem? (i := 18) rfl)))) (mvT hZ (hw _ (List.mem_of_getElem? (i := 18) rfl))) (mvT hZ (hw _ (List.mem_of_getElem? (i := 17) rfl))) (by decide) (backOf (W := 0) (rm3 l Z a0 hw [] y0 (0 : Int32) gC vG v0 k0 (1 : Int32) [(.int (61 : Int32))] (.int (0 : Int32)) (61 : Int32) h0 n0 (Nat.le_trans Z0 K0.1) ES0 SC cC FC0 FV0 hvG ⟨by decide, by decide⟩ SG V0 rfl) hZ (hw _ (List.mem_of_getElem? (i := 20) rfl)) (hw _ (List.mem_of_getElem? (i := 19) rfl)) (by decide) (by decide)) q3a q3c (g := (mkF m 20 #[.val (.int p0), .val (.int (0 : Int32)), .val (.ref b0), .val (.ref y0), .unset, .unset, .unset, .unset] [(.int (0 : Int32)), (.ref y0)])) rfl (by rw [hml]; rfl) (Steps.refl _) (argsL := [(.int (0 : Int32))]) (rest := []) (lenOf pd_6 rfl) rfl (by show 2 * 0 + _ ≤ _; exact Nat.le_of_eq rfl) (hb hby at_20) (fun _ _ => ⟨rfl, eq2, (by decide : 0 + 0 ≤ _), (by decide : 0 + 0 ≤ _)⟩)
    dsimp only [Pt.U, Pt.locs, Pt.cells, Pt.slots] at X3 l3 y3 z3 st3 hQ3
    subst l3 y3 z3
    obtain ⟨rfl, Nq3, eq3⟩ := hQ3
    have N3 := Fr.app N2 Nq3
    refine Runs.by (fun _ hr => st3.trans hr) ?_
    rw [show (((61 : Int32) &&& (255 : Int32)).toUInt32.toUInt16.toUInt32.toInt32) = (61 : Int32) from by decide]
    show Runs p e below _ (T3.setTop (mkF m 23 #[.val (.int p0), .val (.int (0 : Int32)), .val (.ref b0), .val (.ref y0), .unset, .unset, .unset, .unset] [(.int (61 : Int32))]))
    refine Runs.by (fun _ hr => XS.istore X3.here hx rfl (hb hby at_23) rfl (l' := #[.val (.int p0), .val (.int (0 : Int32)), .val (.ref b0), .val (.ref y0), .val (.int (61 : Int32)), .unset, .unset, .unset]) rfl hr) ?_
    show Runs p e below _ (T3.setTop (mkF m 25 #[.val (.int p0), .val (.int (0 : Int32)), .val (.ref b0), .val (.ref y0), .val (.int (61 : Int32)), .unset, .unset, .unset] []))
    refine Runs.by (fun _ hr => XS.iload X3.here hx rfl (hb hby at_25) rfl  hr) ?_
    show Runs p e below _ (T3.setTop (mkF m 27 #[.val (.int p0), .val (.int (0 : Int32)), .val (.ref b0), .val (.ref y0), .val (.int (61 : Int32)), .unset, .unset, .unset] [(.int (61 : Int32))]))
    refine Runs.by (fun _ hr => XS.bipush X3.here hx rfl (hb hby at_27) hr) ?_
    show Runs p e below _ (T3.setTop (mkF m 29 #[.val (.int p0), .val (.int (0 : Int32)), .val (.ref b0), .val (.ref y0), .val (.int (61 : Int32)), .unset, .unset, .unset] [(.int (60 : Int32)), (.int (61 : Int32))]))
    have hc29 : ¬ ((61 : Int32) = (60 : Int32)) := (by decide)
    refine Runs.by (fun _ hr => XS.icmpNo X3.here hx rfl (hb hby at_29) rfl (feq hc29).1 hr) ?_
    show Runs p e below _ (T3.setTop (mkF m 32 #[.val (.int p0), .val (.int (0 : Int32)), .val (.ref b0), .val (.ref y0), .val (.int (61 : Int32)), .unset, .unset, .unset] []))
    refine Runs.by (fun _ hr => XS.iload X3.here hx rfl (hb hby at_32) rfl  hr) ?_
    show Runs p e below _ (T3.setTop (mkF m 34 #[.val (.int p0), .val (.int (0 : Int32)), .val (.ref b0), .val (.ref y0), .val (.int (61 : Int32)), .unset, .unset, .unset] [(.int (61 : Int32))]))
    refine Runs.by (fun _ hr => XS.bipush X3.here hx rfl (hb hby at_34) hr) ?_
    show Runs p e below _ (T3.setTop (mkF m 36 #[.val (.int p0), .val (.int (0 : Int32)), .val (.ref b0), .val (.ref y0), .val (.int (61 : Int32)), .unset, .unset, .unset] [(.int (62 : Int32)), (.int (61 : Int32))]))
    have hc36 : ¬ ((61 : Int32) = (62 : Int32)) := (by decide)
    refine Runs.by (fun _ hr => XS.icmpYes X3.here hx rfl (pc0 := 36) (pc' := 43) rfl (hb hby at_36) rfl (feq hc36).2 (by decide) (by decide) hr) ?_
    show Runs p e below _ (T3.setTop (mkF m 43 #[.val (.int p0), .val (.int (0 : Int32)), .val (.ref b0), .val (.ref y0), .val (.int (61 : Int32)), .unset, .unset, .unset] []))
    refine Runs.by (fun _ hr => XS.iconst X3.here hx rfl (hb hby at_43) hr) ?_
    show Runs p e below _ (T3.setTop (mkF m 44 #[.val (.int p0), .val (.int (0 : Int32)), .val (.ref b0), .val (.ref y0), .val (.int (61 : Int32)), .unset, .unset, .unset] [(.int (0 : Int32))]))
    refine Runs.by (fun _ hr => XS.istore X3.here hx rfl (hb hby at_44) rfl (l' := #[.val (.int p0), .val (.int (0 : Int32)), .val (.ref b0), .val (.ref y0), .val (.int (61 : Int32)), .val (.int (0 : Int32)), .unset, .unset]) rfl hr) ?_
    show Runs p e below _ (T3.setTop (mkF m 46 #[.val (.int p0), .val (.int (0 : Int32)), .val (.ref b0), .val (.ref y0), .val (.int (61 : Int32)), .val (.int (0 : Int32)), .unset, .unset] []))
    refine Runs.by (fun _ hr => XS.iloadN X3.here hx rfl (hb hby at_46) rfl  hr) ?_
    show Runs p e below _ (T3.setTop (mkF m 47 #[.val (.int p0), .val (.int (0 : Int32)), .val (.ref b0), .val (.ref y0), .val (.int (61 : Int32)), .val (.int (0 : Int32)), .unset, .unset] [(.int (0 : Int32))]))
    refine Runs.by (fun _ hr => XS.iconst X3.here hx rfl (hb hby at_47) hr) ?_
    show Runs p e below _ (T3.setTop (mkF m 48 #[.val (.int p0), .val (.int (0 : Int32)), .val (.ref b0), .val (.ref y0), .val (.int (61 : Int32)), .val (.int (0 : Int32)), .unset, .unset] [(.int (2 : Int32)), (.int (0 : Int32))]))
    have hc48 : (0 : Int32) < (2 : Int32) := (by decide)
    refine Runs.by (fun _ hr => XS.icmpYes X3.here hx rfl (pc0 := 48) (pc' := 55) rfl (hb hby at_48) rfl (tlt hc48).1 (by decide) (by decide) hr) ?_
    show Runs p e below _ (T3.setTop (mkF m 55 #[.val (.int p0), .val (.int (0 : Int32)), .val (.ref b0), .val (.ref y0), .val (.int (61 : Int32)), .val (.int (0 : Int32)), .unset, .unset] []))
    refine Runs.by (fun _ hr => XS.iconst X3.here hx rfl (hb hby at_55) hr) ?_
    show Runs p e below _ (T3.setTop (mkF m 56 #[.val (.int p0), .val (.int (0 : Int32)), .val (.ref b0), .val (.ref y0), .val (.int (61 : Int32)), .val (.int (0 : Int32)), .unset, .unset] [(.int (0 : Int32))]))
    refine Runs.by (fun _ hr => XS.istore X3.here hx rfl (hb hby at_56) rfl (l' := #[.val (.int p0), .val (.int (0 : Int32)), .val (.ref b0), .val (.ref y0), .val (.int (61 : Int32)), .val (.int (0 : Int32)), .val (.int (0 : Int32)), .unset]) rfl hr) ?_
    show Runs p e below _ (T3.setTop (mkF m 58 #[.val (.int p0), .val (.int (0 : Int32)), .val (.ref b0), .val (.ref y0), .val (.int (61 : Int32)), .val (.int (0 : Int32)), .val (.int (0 : Int32)), .unset] []))
    refine Runs.by (fun _ hr => XS.aloadN X3.here hx rfl (hb hby at_58) rfl rfl hr) ?_
    show Runs p e below _ (T3.setTop (mkF m 59 #[.val (.int p0), .val (.int (0 : Int32)), .val (.ref b0), .val (.ref y0), .val (.int (61 : Int32)), .val (.int (0 : Int32)), .val (.int (0 : Int32)), .unset] [(.ref b0)]))
    obtain ⟨cq4, kq4, q4a, q4b, q4c⟩ := isOf hZ eq3 E0
    obtain ⟨_, _, ⟨T4, L4, k4, n4⟩, -, X4, ⟨Lc4, hQ4, l4, y4, z4⟩, st4⟩ := X3.virtualBack hx (y := (⟨"com/example/tollgate/tollgate/policy/Condition$Comparator", "orders", "()Z"⟩ : MethodName)) (z := (⟨"com/example/tollgate/tollgate/policy/Condition$Comparator", "orders", "()Z"⟩ : MethodName)) hown (mvT hZ (hw _ (List.mem_of_getElem? (i := 43) rfl))) (mvT hZ (hw _ (List.mem_of_getElem? (i := 44) rfl))) (notFace_of_selects (args := #[]) (mvT hZ (hw _ (List.mem_of_getElem? (i := 46) rfl)))) (mvT hZ (hw _ (List.mem_of_getElem? (i := 46) rfl))) (mvT hZ (hw _ (List.mem_of_getElem? (i := 45) rfl))) (by decide) (backOf (W := 0) (rm8 l Z a0 hw [] b0 b0 b1 h0 n0 (Nat.le_trans Z0 K0.1) S0 S1) hZ (hw _ (List.mem_of_getElem? (i := 47) rfl)) (hw _ (List.mem_of_getElem? (i := 6) rfl)) (by decide) (by decide)) q4a q4c (g := (mkF m 59 #[.val (.int p0), .val (.int (0 : Int32)), .val (.ref b0), .val (.ref y0), .val (.int (61 : Int32)), .val (.int (0 : Int32)), .val (.int (0 : Int32)), .unset] [(.ref b0)])) rfl (by rw [hml]; rfl) (Steps.refl _) (argsL := []) (rest := []) (lenOf pd_2 rfl) rfl (by show 2 * 0 + _ ≤ _; exact Nat.le_of_eq rfl) (hb hby at_59) (fun _ _ => ⟨rfl, eq3, (by decide : 0 + 0 ≤ _), (by decide : 0 + 0 ≤ _)⟩)
    dsimp only [Pt.U, Pt.locs, Pt.cells, Pt.slots] at X4 l4 y4 z4 st4 hQ4
    subst l4 y4 z4
    obtain ⟨rfl, Nq4, eq4⟩ := hQ4
    have N4 := Fr.app N3 Nq4
    refine Runs.by (fun _ hr => st4.trans hr) ?_
    rw [show own_ord b0 b1 b0 = (0 : Int32) from by simp [own_ord]]
    show Runs p e below _ (T4.setTop (mkF m 62 #[.val (.int p0), .val (.int (0 : Int32)), .val (.ref b0), .val (.ref y0), .val (.int (61 : Int32)), .val (.int (0 : Int32)), .val (.int (0 : Int32)), .unset] [(.int (0 : Int32))]))
    refine Runs.by (fun _ hr => XS.istore X4.here hx rfl (hb hby at_62) rfl (l' := #[.val (.int p0), .val (.int (0 : Int32)), .val (.ref b0), .val (.ref y0), .val (.int (61 : Int32)), .val (.int (0 : Int32)), .val (.int (0 : Int32)), .val (.int (0 : Int32))]) rfl hr) ?_
    show Runs p e below _ (T4.setTop (mkF m 64 #[.val (.int p0), .val (.int (0 : Int32)), .val (.ref b0), .val (.ref y0), .val (.int (61 : Int32)), .val (.int (0 : Int32)), .val (.int (0 : Int32)), .val (.int (0 : Int32))] []))
    refine Runs.by (fun _ hr => XS.iload X4.here hx rfl (hb hby at_64) rfl  hr) ?_
    show Runs p e below _ (T4.setTop (mkF m 66 #[.val (.int p0), .val (.int (0 : Int32)), .val (.ref b0), .val (.ref y0), .val (.int (61 : Int32)), .val (.int (0 : Int32)), .val (.int (0 : Int32)), .val (.int (0 : Int32))] [(.int (0 : Int32))]))
    refine Runs.by (fun _ hr => XS.iload X4.here hx rfl (hb hby at_66) rfl  hr) ?_
    show Runs p e below _ (T4.setTop (mkF m 68 #[.val (.int p0), .val (.int (0 : Int32)), .val (.ref b0), .val (.ref y0), .val (.int (61 : Int32)), .val (.int (0 : Int32)), .val (.int (0 : Int32)), .val (.int (0 : Int32))] [(.int (0 : Int32)), (.int (0 : Int32))]))
    have hc68 : (0 : Int32) = (0 : Int32) := (by decide)
    refine Runs.by (fun _ hr => XS.icmpNo X4.here hx rfl (hb hby at_68) rfl (teq hc68).2 hr) ?_
    show Runs p e below _ (T4.setTop (mkF m 71 #[.val (.int p0), .val (.int (0 : Int32)), .val (.ref b0), .val (.ref y0), .val (.int (61 : Int32)), .val (.int (0 : Int32)), .val (.int (0 : Int32)), .val (.int (0 : Int32))] []))
    refine Runs.by (fun _ hr => XS.iload X4.here hx rfl (hb hby at_71) rfl  hr) ?_
    show Runs p e below _ (T4.setTop (mkF m 73 #[.val (.int p0), .val (.int (0 : Int32)), .val (.ref b0), .val (.ref y0), .val (.int (61 : Int32)), .val (.int (0 : Int32)), .val (.int (0 : Int32)), .val (.int (0 : Int32))] [(.int (0 : Int32))]))
    refine Runs.by (fun _ hr => XS.iload X4.here hx rfl (hb hby at_73) rfl  hr) ?_
    show Runs p e below _ (T4.setTop (mkF m 75 #[.val (.int p0), .val (.int (0 : Int32)), .val (.ref b0), .val (.ref y0), .val (.int (61 : Int32)), .val (.int (0 : Int32)), .val (.int (0 : Int32)), .val (.int (0 : Int32))] [(.int (0 : Int32)), (.int (0 : Int32))]))
    have hc75 : (0 : Int32) = (0 : Int32) := (by decide)
    refine Runs.by (fun _ hr => XS.icmpNo X4.here hx rfl (hb hby at_75) rfl (teq hc75).2 hr) ?_
    show Runs p e below _ (T4.setTop (mkF m 78 #[.val (.int p0), .val (.int (0 : Int32)), .val (.ref b0), .val (.ref y0), .val (.int (61 : Int32)), .val (.int (0 : Int32)), .val (.int (0 : Int32)), .val (.int (0 : Int32))] []))
    refine Runs.by (fun _ hr => XS.iconst X4.here hx rfl (hb hby at_78) hr) ?_
    show Runs p e below _ (T4.setTop (mkF m 79 #[.val (.int p0), .val (.int (0 : Int32)), .val (.ref b0), .val (.ref y0), .val (.int (61 : Int32)), .val (.int (0 : Int32)), .val (.int (0 : Int32)), .val (.int (0 : Int32))] [(.int (1 : Int32))]))
    refine Runs.by (fun _ hr => XS.goto X4.here hx rfl (pc0 := 79) (pc' := 83) rfl (hb hby at_79) (by decide) (by decide) hr) ?_
    show Runs p e below _ (T4.setTop (mkF m 83 #[.val (.int p0), .val (.int (0 : Int32)), .val (.ref b0), .val (.ref y0), .val (.int (61 : Int32)), .val (.int (0 : Int32)), .val (.int (0 : Int32)), .val (.int (0 : Int32))] [(.int (1 : Int32))]))
    refine Runs.ret X4 hx hrt hlk (Or.inl ⟨rfl, by simp, _, rfl⟩) (by rfl) (hb hby at_83) (by decide) (by decide) ?_
    rw [eq4]
    exact ⟨rfl, N4⟩
  · skip
    show Runs p e below _ (s₁.setTop (mkF m 8 #[.val (.int p0), .val (.int (1 : Int32)), .unset, .unset, .unset, .unset, .unset, .unset] []))
    refine Runs.by (fun _ hr => XS.iloadN X0.here hx rfl (hb hby at_8) rfl  hr) ?_
    show Runs p e below _ (s₁.setTop (mkF m 9 #[.val (.int p0), .val (.int (1 : Int32)), .unset, .unset, .unset, .unset, .unset, .unset] [(.int (1 : Int32))]))
    obtain ⟨_, _, ⟨T5, L5, k5, n5⟩, -, X5, ⟨Lc5, hQ5, l5, y5, z5⟩, st5⟩ := Jvm.LawKit.callS X0 hx (y := (⟨"com/example/tollgate/tollgate/policy/ComparatorOrdersPinLaw", "pick", "(I)Lcom/example/tollgate/tollgate/policy/Condition$Comparator;"⟩ : MethodName)) hown (mvT hZ (hw _ (List.mem_of_getElem? (i := 1) rfl))) (mvT hZ (hw _ (List.mem_of_getElem? (i := 2) rfl))) (mvT hZ (hw _ (List.mem_of_getElem? (i := 3) rfl))) (mvT hZ (hw _ (List.mem_of_getElem? (i := 4) rfl))) (by decide) (backOf (W := 0) (rm1 l Z a0 hw [] (1 : Int32) b0 b1 b2 b3 b4 b5 h0 n0 (Nat.le_trans Z0 K0.1) S0 S1 S2 S3 S4 S5) hZ (hw _ (List.mem_of_getElem? (i := 4) rfl)) (hw _ (List.mem_of_getElem? (i := 3) rfl)) (by decide) (by decide)) (g := (mkF m 9 #[.val (.int p0), .val (.int (1 : Int32)), .unset, .unset, .unset, .unset, .unset, .unset] [(.int (1 : Int32))])) rfl (by rw [hml]; rfl) (argsL := [(.int (1 : Int32))]) (rest := []) (lenOf pd_4 rfl) rfl (by show 2 * 0 + _ ≤ _; exact Nat.le_of_eq rfl) (hb hby at_9) (fun _ _ => ⟨rfl, e0, (by decide : 0 + 0 ≤ _), (by decide : 0 + 0 ≤ _)⟩)
    dsimp only [Pt.U, Pt.locs, Pt.cells, Pt.slots] at X5 l5 y5 z5 st5 hQ5
    subst l5 y5 z5
    obtain ⟨rfl, Nq5, eq5⟩ := hQ5
    have N5 := Fr.app N0 Nq5
    refine Runs.by (fun t hr => st5 t hr) ?_
    rw [show own_pick b0 b1 b2 b3 b4 b5 (1 : Int32) = b1 from rfl]
    show Runs p e below _ (T5.setTop (mkF m 12 #[.val (.int p0), .val (.int (1 : Int32)), .unset, .unset, .unset, .unset, .unset, .unset] [(.ref b1)]))
    refine Runs.by (fun _ hr => XS.astoreN X5.here hx rfl (hb hby at_12) rfl rfl (l' := #[.val (.int p0), .val (.int (1 : Int32)), .val (.ref b1), .unset, .unset, .unset, .unset, .unset]) rfl hr) ?_
    show Runs p e below _ (T5.setTop (mkF m 13 #[.val (.int p0), .val (.int (1 : Int32)), .val (.ref b1), .unset, .unset, .unset, .unset, .unset] []))
    refine Runs.by (fun _ hr => XS.aloadN X5.here hx rfl (hb hby at_13) rfl rfl hr) ?_
    show Runs p e below _ (T5.setTop (mkF m 14 #[.val (.int p0), .val (.int (1 : Int32)), .val (.ref b1), .unset, .unset, .unset, .unset, .unset] [(.ref b1)]))
    obtain ⟨cq6, kq6, q6a, q6b, q6c⟩ := isOf hZ eq5 E1
    obtain ⟨_, _, ⟨T6, L6, k6, n6⟩, -, X6, ⟨Lc6, hQ6, l6, y6, z6⟩, st6⟩ := X5.virtualBack hx (y := (⟨"com/example/tollgate/tollgate/policy/Condition$Comparator", "toString", "()Ljava/lang/String;"⟩ : MethodName)) (z := (⟨"com/example/tollgate/tollgate/policy/Condition$Comparator", "toString", "()Ljava/lang/String;"⟩ : MethodName)) hown (mvT hZ (hw _ (List.mem_of_getElem? (i := 8) rfl))) (mvT hZ (hw _ (List.mem_of_getElem? (i := 9) rfl))) (notFace_of_selects (args := #[]) (mvT hZ (hw _ (List.mem_of_getElem? (i := 11) rfl)))) (mvT hZ (hw _ (List.mem_of_getElem? (i := 11) rfl))) (mvT hZ (hw _ (List.mem_of_getElem? (i := 10) rfl))) (by decide) (backOf (W := 0) (rm2 l Z a0 hw [] b1 y1 h0 n0 (Nat.le_trans Z0 K0.1) FS1) hZ (hw _ (List.mem_of_getElem? (i := 12) rfl)) (hw _ (List.mem_of_getElem? (i := 6) rfl)) (by decide) (by decide)) q6a q6c (g := (mkF m 14 #[.val (.int p0), .val (.int (1 : Int32)), .val (.ref b1), .unset, .unset, .unset, .unset, .unset] [(.ref b1)])) rfl (by rw [hml]; rfl) (Steps.refl _) (argsL := []) (rest := []) (lenOf pd_5 rfl) rfl (by show 2 * 0 + _ ≤ _; exact Nat.le_of_eq rfl) (hb hby at_14) (fun _ _ => ⟨rfl, eq5, (by decide : 0 + 0 ≤ _), (by decide : 0 + 0 ≤ _)⟩)
    dsimp only [Pt.U, Pt.locs, Pt.cells, Pt.slots] at X6 l6 y6 z6 st6 hQ6
    subst l6 y6 z6
    obtain ⟨rfl, Nq6, eq6⟩ := hQ6
    have N6 := Fr.app N5 Nq6
    refine Runs.by (fun _ hr => st6.trans hr) ?_
    show Runs p e below _ (T6.setTop (mkF m 17 #[.val (.int p0), .val (.int (1 : Int32)), .val (.ref b1), .unset, .unset, .unset, .unset, .unset] [(.ref y1)]))
    refine Runs.by (fun _ hr => XS.astoreN X6.here hx rfl (hb hby at_17) rfl rfl (l' := #[.val (.int p0), .val (.int (1 : Int32)), .val (.ref b1), .val (.ref y1), .unset, .unset, .unset, .unset]) rfl hr) ?_
    show Runs p e below _ (T6.setTop (mkF m 18 #[.val (.int p0), .val (.int (1 : Int32)), .val (.ref b1), .val (.ref y1), .unset, .unset, .unset, .unset] []))
    refine Runs.by (fun _ hr => XS.aloadN X6.here hx rfl (hb hby at_18) rfl rfl hr) ?_
    show Runs p e below _ (T6.setTop (mkF m 19 #[.val (.int p0), .val (.int (1 : Int32)), .val (.ref b1), .val (.ref y1), .unset, .unset, .unset, .unset] [(.ref y1)]))
    refine Runs.by (fun _ hr => XS.iconst X6.here hx rfl (hb hby at_19) hr) ?_
    show Runs p e below _ (T6.setTop (mkF m 20 #[.val (.int p0), .val (.int (1 : Int32)), .val (.ref b1), .val (.ref y1), .unset, .unset, .unset, .unset] [(.int (0 : Int32)), (.ref y1)]))
    obtain ⟨cq7, kq7, q7a, q7b, q7c⟩ := isOf hZ eq6 ES1
    obtain ⟨_, _, ⟨T7, L7, k7, n7⟩, -, X7, ⟨Lc7, hQ7, l7, y7, z7⟩, st7⟩ := X6.virtualBack hx (y := (⟨"java/lang/String", "charAt", "(I)C"⟩ : MethodName)) (z := (⟨"java/lang/String", "charAt", "(I)C"⟩ : MethodName)) hown (mvT hZ (hw _ (List.mem_of_getElem? (i := 15) rfl))) (mvT hZ (hw _ (List.mem_of_getElem? (i := 16) rfl))) (notFace_of_selects (args := #[]) (mvT hZ (hw _ (List.mem_of_getElem? (i := 18) rfl)))) (mvT hZ (hw _ (List.mem_of_getElem? (i := 18) rfl))) (mvT hZ (hw _ (List.mem_of_getElem? (i := 17) rfl))) (by decide) (backOf (W := 0) (rm3 l Z a0 hw [] y1 (0 : Int32) gC vG v1 k1 (2 : Int32) [(.int (33 : Int32)), (.int (61 : Int32))] (.int (0 : Int32)) (33 : Int32) h0 n0 (Nat.le_trans Z0 K0.1) ES1 SC cC FC1 FV1 hvG ⟨by decide, by decide⟩ SG V1 rfl) hZ (hw _ (List.mem_of_getElem? (i := 20) rfl)) (hw _ (List.mem_of_getElem? (i := 19) rfl)) (by decide) (by decide)) q7a q7c (g := (mkF m 20 #[.val (.int p0), .val (.int (1 : Int32)), .val (.ref b1), .val (.ref y1), .unset, .unset, .unset, .unset] [(.int (0 : Int32)), (.ref y1)])) rfl (by rw [hml]; rfl) (Steps.refl _) (argsL := [(.int (0 : Int32))]) (rest := []) (lenOf pd_6 rfl) rfl (by show 2 * 0 + _ ≤ _; exact Nat.le_of_eq rfl) (hb hby at_20) (fun _ _ => ⟨rfl, eq6, (by decide : 0 + 0 ≤ _), (by decide : 0 + 0 ≤ _)⟩)
    dsimp only [Pt.U, Pt.locs, Pt.cells, Pt.slots] at X7 l7 y7 z7 st7 hQ7
    subst l7 y7 z7
    obtain ⟨rfl, Nq7, eq7⟩ := hQ7
    have N7 := Fr.app N6 Nq7
    refine Runs.by (fun _ hr => st7.trans hr) ?_
    rw [show (((33 : Int32) &&& (255 : Int32)).toUInt32.toUInt16.toUInt32.toInt32) = (33 : Int32) from by decide]
    show Runs p e below _ (T7.setTop (mkF m 23 #[.val (.int p0), .val (.int (1 : Int32)), .val (.ref b1), .val (.ref y1), .unset, .unset, .unset, .unset] [(.int (33 : Int32))]))
    refine Runs.by (fun _ hr => XS.istore X7.here hx rfl (hb hby at_23) rfl (l' := #[.val (.int p0), .val (.int (1 : Int32)), .val (.ref b1), .val (.ref y1), .val (.int (33 : Int32)), .unset, .unset, .unset]) rfl hr) ?_
    show Runs p e below _ (T7.setTop (mkF m 25 #[.val (.int p0), .val (.int (1 : Int32)), .val (.ref b1), .val (.ref y1), .val (.int (33 : Int32)), .unset, .unset, .unset] []))
    refine Runs.by (fun _ hr => XS.iload X7.here hx rfl (hb hby at_25) rfl  hr) ?_
    show Runs p e below _ (T7.setTop (mkF m 27 #[.val (.int p0), .val (.int (1 : Int32)), .val (.ref b1), .val (.ref y1), .val (.int (33 : Int32)), .unset, .unset, .unset] [(.int (33 : Int32))]))
    refine Runs.by (fun _ hr => XS.bipush X7.here hx rfl (hb hby at_27) hr) ?_
    show Runs p e below _ (T7.setTop (mkF m 29 #[.val (.int p0), .val (.int (1 : Int32)), .val (.ref b1), .val (.ref y1), .val (.int (33 : Int32)), .unset, .unset, .unset] [(.int (60 : Int32)), (.int (33 : Int32))]))
    have hc29 : ¬ ((33 : Int32) = (60 : Int32)) := (by decide)
    refine Runs.by (fun _ hr => XS.icmpNo X7.here hx rfl (hb hby at_29) rfl (feq hc29).1 hr) ?_
    show Runs p e below _ (T7.setTop (mkF m 32 #[.val (.int p0), .val (.int (1 : Int32)), .val (.ref b1), .val (.ref y1), .val (.int (33 : Int32)), .unset, .unset, .unset] []))
    refine Runs.by (fun _ hr => XS.iload X7.here hx rfl (hb hby at_32) rfl  hr) ?_
    show Runs p e below _ (T7.setTop (mkF m 34 #[.val (.int p0), .val (.int (1 : Int32)), .val (.ref b1), .val (.ref y1), .val (.int (33 : Int32)), .unset, .unset, .unset] [(.int (33 : Int32))]))
    refine Runs.by (fun _ hr => XS.bipush X7.here hx rfl (hb hby at_34) hr) ?_
    show Runs p e below _ (T7.setTop (mkF m 36 #[.val (.int p0), .val (.int (1 : Int32)), .val (.ref b1), .val (.ref y1), .val (.int (33 : Int32)), .unset, .unset, .unset] [(.int (62 : Int32)), (.int (33 : Int32))]))
    have hc36 : ¬ ((33 : Int32) = (62 : Int32)) := (by decide)
    refine Runs.by (fun _ hr => XS.icmpYes X7.here hx rfl (pc0 := 36) (pc' := 43) rfl (hb hby at_36) rfl (feq hc36).2 (by decide) (by decide) hr) ?_
    show Runs p e below _ (T7.setTop (mkF m 43 #[.val (.int p0), .val (.int (1 : Int32)), .val (.ref b1), .val (.ref y1), .val (.int (33 : Int32)), .unset, .unset, .unset] []))
    refine Runs.by (fun _ hr => XS.iconst X7.here hx rfl (hb hby at_43) hr) ?_
    show Runs p e below _ (T7.setTop (mkF m 44 #[.val (.int p0), .val (.int (1 : Int32)), .val (.ref b1), .val (.ref y1), .val (.int (33 : Int32)), .unset, .unset, .unset] [(.int (0 : Int32))]))
    refine Runs.by (fun _ hr => XS.istore X7.here hx rfl (hb hby at_44) rfl (l' := #[.val (.int p0), .val (.int (1 : Int32)), .val (.ref b1), .val (.ref y1), .val (.int (33 : Int32)), .val (.int (0 : Int32)), .unset, .unset]) rfl hr) ?_
    show Runs p e below _ (T7.setTop (mkF m 46 #[.val (.int p0), .val (.int (1 : Int32)), .val (.ref b1), .val (.ref y1), .val (.int (33 : Int32)), .val (.int (0 : Int32)), .unset, .unset] []))
    refine Runs.by (fun _ hr => XS.iloadN X7.here hx rfl (hb hby at_46) rfl  hr) ?_
    show Runs p e below _ (T7.setTop (mkF m 47 #[.val (.int p0), .val (.int (1 : Int32)), .val (.ref b1), .val (.ref y1), .val (.int (33 : Int32)), .val (.int (0 : Int32)), .unset, .unset] [(.int (1 : Int32))]))
    refine Runs.by (fun _ hr => XS.iconst X7.here hx rfl (hb hby at_47) hr) ?_
    show Runs p e below _ (T7.setTop (mkF m 48 #[.val (.int p0), .val (.int (1 : Int32)), .val (.ref b1), .val (.ref y1), .val (.int (33 : Int32)), .val (.int (0 : Int32)), .unset, .unset] [(.int (2 : Int32)), (.int (1 : Int32))]))
    have hc48 : (1 : Int32) < (2 : Int32) := (by decide)
    refine Runs.by (fun _ hr => XS.icmpYes X7.here hx rfl (pc0 := 48) (pc' := 55) rfl (hb hby at_48) rfl (tlt hc48).1 (by decide) (by decide) hr) ?_
    show Runs p e below _ (T7.setTop (mkF m 55 #[.val (.int p0), .val (.int (1 : Int32)), .val (.ref b1), .val (.ref y1), .val (.int (33 : Int32)), .val (.int (0 : Int32)), .unset, .unset] []))
    refine Runs.by (fun _ hr => XS.iconst X7.here hx rfl (hb hby at_55) hr) ?_
    show Runs p e below _ (T7.setTop (mkF m 56 #[.val (.int p0), .val (.int (1 : Int32)), .val (.ref b1), .val (.ref y1), .val (.int (33 : Int32)), .val (.int (0 : Int32)), .unset, .unset] [(.int (0 : Int32))]))
    refine Runs.by (fun _ hr => XS.istore X7.here hx rfl (hb hby at_56) rfl (l' := #[.val (.int p0), .val (.int (1 : Int32)), .val (.ref b1), .val (.ref y1), .val (.int (33 : Int32)), .val (.int (0 : Int32)), .val (.int (0 : Int32)), .unset]) rfl hr) ?_
    show Runs p e below _ (T7.setTop (mkF m 58 #[.val (.int p0), .val (.int (1 : Int32)), .val (.ref b1), .val (.ref y1), .val (.int (33 : Int32)), .val (.int (0 : Int32)), .val (.int (0 : Int32)), .unset] []))
    refine Runs.by (fun _ hr => XS.aloadN X7.here hx rfl (hb hby at_58) rfl rfl hr) ?_
    show Runs p e below _ (T7.setTop (mkF m 59 #[.val (.int p0), .val (.int (1 : Int32)), .val (.ref b1), .val (.ref y1), .val (.int (33 : Int32)), .val (.int (0 : Int32)), .val (.int (0 : Int32)), .unset] [(.ref b1)]))
    obtain ⟨cq8, kq8, q8a, q8b, q8c⟩ := isOf hZ eq7 E1
    obtain ⟨_, _, ⟨T8, L8, k8, n8⟩, -, X8, ⟨Lc8, hQ8, l8, y8, z8⟩, st8⟩ := X7.virtualBack hx (y := (⟨"com/example/tollgate/tollgate/policy/Condition$Comparator", "orders", "()Z"⟩ : MethodName)) (z := (⟨"com/example/tollgate/tollgate/policy/Condition$Comparator", "orders", "()Z"⟩ : MethodName)) hown (mvT hZ (hw _ (List.mem_of_getElem? (i := 43) rfl))) (mvT hZ (hw _ (List.mem_of_getElem? (i := 44) rfl))) (notFace_of_selects (args := #[]) (mvT hZ (hw _ (List.mem_of_getElem? (i := 46) rfl)))) (mvT hZ (hw _ (List.mem_of_getElem? (i := 46) rfl))) (mvT hZ (hw _ (List.mem_of_getElem? (i := 45) rfl))) (by decide) (backOf (W := 0) (rm8 l Z a0 hw [] b1 b0 b1 h0 n0 (Nat.le_trans Z0 K0.1) S0 S1) hZ (hw _ (List.mem_of_getElem? (i := 47) rfl)) (hw _ (List.mem_of_getElem? (i := 6) rfl)) (by decide) (by decide)) q8a q8c (g := (mkF m 59 #[.val (.int p0), .val (.int (1 : Int32)), .val (.ref b1), .val (.ref y1), .val (.int (33 : Int32)), .val (.int (0 : Int32)), .val (.int (0 : Int32)), .unset] [(.ref b1)])) rfl (by rw [hml]; rfl) (Steps.refl _) (argsL := []) (rest := []) (lenOf pd_2 rfl) rfl (by show 2 * 0 + _ ≤ _; exact Nat.le_of_eq rfl) (hb hby at_59) (fun _ _ => ⟨rfl, eq7, (by decide : 0 + 0 ≤ _), (by decide : 0 + 0 ≤ _)⟩)
    dsimp only [Pt.U, Pt.locs, Pt.cells, Pt.slots] at X8 l8 y8 z8 st8 hQ8
    subst l8 y8 z8
    obtain ⟨rfl, Nq8, eq8⟩ := hQ8
    have N8 := Fr.app N7 Nq8
    refine Runs.by (fun _ hr => st8.trans hr) ?_
    rw [show own_ord b0 b1 b1 = (0 : Int32) from by simp [own_ord, nE1_0]]
    show Runs p e below _ (T8.setTop (mkF m 62 #[.val (.int p0), .val (.int (1 : Int32)), .val (.ref b1), .val (.ref y1), .val (.int (33 : Int32)), .val (.int (0 : Int32)), .val (.int (0 : Int32)), .unset] [(.int (0 : Int32))]))
    refine Runs.by (fun _ hr => XS.istore X8.here hx rfl (hb hby at_62) rfl (l' := #[.val (.int p0), .val (.int (1 : Int32)), .val (.ref b1), .val (.ref y1), .val (.int (33 : Int32)), .val (.int (0 : Int32)), .val (.int (0 : Int32)), .val (.int (0 : Int32))]) rfl hr) ?_
    show Runs p e below _ (T8.setTop (mkF m 64 #[.val (.int p0), .val (.int (1 : Int32)), .val (.ref b1), .val (.ref y1), .val (.int (33 : Int32)), .val (.int (0 : Int32)), .val (.int (0 : Int32)), .val (.int (0 : Int32))] []))
    refine Runs.by (fun _ hr => XS.iload X8.here hx rfl (hb hby at_64) rfl  hr) ?_
    show Runs p e below _ (T8.setTop (mkF m 66 #[.val (.int p0), .val (.int (1 : Int32)), .val (.ref b1), .val (.ref y1), .val (.int (33 : Int32)), .val (.int (0 : Int32)), .val (.int (0 : Int32)), .val (.int (0 : Int32))] [(.int (0 : Int32))]))
    refine Runs.by (fun _ hr => XS.iload X8.here hx rfl (hb hby at_66) rfl  hr) ?_
    show Runs p e below _ (T8.setTop (mkF m 68 #[.val (.int p0), .val (.int (1 : Int32)), .val (.ref b1), .val (.ref y1), .val (.int (33 : Int32)), .val (.int (0 : Int32)), .val (.int (0 : Int32)), .val (.int (0 : Int32))] [(.int (0 : Int32)), (.int (0 : Int32))]))
    have hc68 : (0 : Int32) = (0 : Int32) := (by decide)
    refine Runs.by (fun _ hr => XS.icmpNo X8.here hx rfl (hb hby at_68) rfl (teq hc68).2 hr) ?_
    show Runs p e below _ (T8.setTop (mkF m 71 #[.val (.int p0), .val (.int (1 : Int32)), .val (.ref b1), .val (.ref y1), .val (.int (33 : Int32)), .val (.int (0 : Int32)), .val (.int (0 : Int32)), .val (.int (0 : Int32))] []))
    refine Runs.by (fun _ hr => XS.iload X8.here hx rfl (hb hby at_71) rfl  hr) ?_
    show Runs p e below _ (T8.setTop (mkF m 73 #[.val (.int p0), .val (.int (1 : Int32)), .val (.ref b1), .val (.ref y1), .val (.int (33 : Int32)), .val (.int (0 : Int32)), .val (.int (0 : Int32)), .val (.int (0 : Int32))] [(.int (0 : Int32))]))
    refine Runs.by (fun _ hr => XS.iload X8.here hx rfl (hb hby at_73) rfl  hr) ?_
    show Runs p e below _ (T8.setTop (mkF m 75 #[.val (.int p0), .val (.int (1 : Int32)), .val (.ref b1), .val (.ref y1), .val (.int (33 : Int32)), .val (.int (0 : Int32)), .val (.int (0 : Int32)), .val (.int (0 : Int32))] [(.int (0 : Int32)), (.int (0 : Int32))]))
    have hc75 : (0 : Int32) = (0 : Int32) := (by decide)
    refine Runs.by (fun _ hr => XS.icmpNo X8.here hx rfl (hb hby at_75) rfl (teq hc75).2 hr) ?_
    show Runs p e below _ (T8.setTop (mkF m 78 #[.val (.int p0), .val (.int (1 : Int32)), .val (.ref b1), .val (.ref y1), .val (.int (33 : Int32)), .val (.int (0 : Int32)), .val (.int (0 : Int32)), .val (.int (0 : Int32))] []))
    refine Runs.by (fun _ hr => XS.iconst X8.here hx rfl (hb hby at_78) hr) ?_
    show Runs p e below _ (T8.setTop (mkF m 79 #[.val (.int p0), .val (.int (1 : Int32)), .val (.ref b1), .val (.ref y1), .val (.int (33 : Int32)), .val (.int (0 : Int32)), .val (.int (0 : Int32)), .val (.int (0 : Int32))] [(.int (1 : Int32))]))
    refine Runs.by (fun _ hr => XS.goto X8.here hx rfl (pc0 := 79) (pc' := 83) rfl (hb hby at_79) (by decide) (by decide) hr) ?_
    show Runs p e below _ (T8.setTop (mkF m 83 #[.val (.int p0), .val (.int (1 : Int32)), .val (.ref b1), .val (.ref y1), .val (.int (33 : Int32)), .val (.int (0 : Int32)), .val (.int (0 : Int32)), .val (.int (0 : Int32))] [(.int (1 : Int32))]))
    refine Runs.ret X8 hx hrt hlk (Or.inl ⟨rfl, by simp, _, rfl⟩) (by rfl) (hb hby at_83) (by decide) (by decide) ?_
    rw [eq8]
    exact ⟨rfl, N8⟩
  · skip
    show Runs p e below _ (s₁.setTop (mkF m 8 #[.val (.int p0), .val (.int (2 : Int32)), .unset, .unset, .unset, .unset, .unset, .unset] []))
    refine Runs.by (fun _ hr => XS.iloadN X0.here hx rfl (hb hby at_8) rfl  hr) ?_
    show Runs p e below _ (s₁.setTop (mkF m 9 #[.val (.int p0), .val (.int (2 : Int32)), .unset, .unset, .unset, .unset, .unset, .unset] [(.int (2 : Int32))]))
    obtain ⟨_, _, ⟨T9, L9, k9, n9⟩, -, X9, ⟨Lc9, hQ9, l9, y9, z9⟩, st9⟩ := Jvm.LawKit.callS X0 hx (y := (⟨"com/example/tollgate/tollgate/policy/ComparatorOrdersPinLaw", "pick", "(I)Lcom/example/tollgate/tollgate/policy/Condition$Comparator;"⟩ : MethodName)) hown (mvT hZ (hw _ (List.mem_of_getElem? (i := 1) rfl))) (mvT hZ (hw _ (List.mem_of_getElem? (i := 2) rfl))) (mvT hZ (hw _ (List.mem_of_getElem? (i := 3) rfl))) (mvT hZ (hw _ (List.mem_of_getElem? (i := 4) rfl))) (by decide) (backOf (W := 0) (rm1 l Z a0 hw [] (2 : Int32) b0 b1 b2 b3 b4 b5 h0 n0 (Nat.le_trans Z0 K0.1) S0 S1 S2 S3 S4 S5) hZ (hw _ (List.mem_of_getElem? (i := 4) rfl)) (hw _ (List.mem_of_getElem? (i := 3) rfl)) (by decide) (by decide)) (g := (mkF m 9 #[.val (.int p0), .val (.int (2 : Int32)), .unset, .unset, .unset, .unset, .unset, .unset] [(.int (2 : Int32))])) rfl (by rw [hml]; rfl) (argsL := [(.int (2 : Int32))]) (rest := []) (lenOf pd_4 rfl) rfl (by show 2 * 0 + _ ≤ _; exact Nat.le_of_eq rfl) (hb hby at_9) (fun _ _ => ⟨rfl, e0, (by decide : 0 + 0 ≤ _), (by decide : 0 + 0 ≤ _)⟩)
    dsimp only [Pt.U, Pt.locs, Pt.cells, Pt.slots] at X9 l9 y9 z9 st9 hQ9
    subst l9 y9 z9
    obtain ⟨rfl, Nq9, eq9⟩ := hQ9
    have N9 := Fr.app N0 Nq9
    refine Runs.by (fun t hr => st9 t hr) ?_
    rw [show own_pick b0 b1 b2 b3 b4 b5 (2 : Int32) = b2 from rfl]
    show Runs p e below _ (T9.setTop (mkF m 12 #[.val (.int p0), .val (.int (2 : Int32)), .unset, .unset, .unset, .unset, .unset, .unset] [(.ref b2)]))
    refine Runs.by (fun _ hr => XS.astoreN X9.here hx rfl (hb hby at_12) rfl rfl (l' := #[.val (.int p0), .val (.int (2 : Int32)), .val (.ref b2), .unset, .unset, .unset, .unset, .unset]) rfl hr) ?_
    show Runs p e below _ (T9.setTop (mkF m 13 #[.val (.int p0), .val (.int (2 : Int32)), .val (.ref b2), .unset, .unset, .unset, .unset, .unset] []))
    refine Runs.by (fun _ hr => XS.aloadN X9.here hx rfl (hb hby at_13) rfl rfl hr) ?_
    show Runs p e below _ (T9.setTop (mkF m 14 #[.val (.int p0), .val (.int (2 : Int32)), .val (.ref b2), .unset, .unset, .unset, .unset, .unset] [(.ref b2)]))
    obtain ⟨cq10, kq10, q10a, q10b, q10c⟩ := isOf hZ eq9 E2
    obtain ⟨_, _, ⟨T10, L10, k10, n10⟩, -, X10, ⟨Lc10, hQ10, l10, y10, z10⟩, st10⟩ := X9.virtualBack hx (y := (⟨"com/example/tollgate/tollgate/policy/Condition$Comparator", "toString", "()Ljava/lang/String;"⟩ : MethodName)) (z := (⟨"com/example/tollgate/tollgate/policy/Condition$Comparator", "toString", "()Ljava/lang/String;"⟩ : MethodName)) hown (mvT hZ (hw _ (List.mem_of_getElem? (i := 8) rfl))) (mvT hZ (hw _ (List.mem_of_getElem? (i := 9) rfl))) (notFace_of_selects (args := #[]) (mvT hZ (hw _ (List.mem_of_getElem? (i := 11) rfl)))) (mvT hZ (hw _ (List.mem_of_getElem? (i := 11) rfl))) (mvT hZ (hw _ (List.mem_of_getElem? (i := 10) rfl))) (by decide) (backOf (W := 0) (rm2 l Z a0 hw [] b2 y2 h0 n0 (Nat.le_trans Z0 K0.1) FS2) hZ (hw _ (List.mem_of_getElem? (i := 12) rfl)) (hw _ (List.mem_of_getElem? (i := 6) rfl)) (by decide) (by decide)) q10a q10c (g := (mkF m 14 #[.val (.int p0), .val (.int (2 : Int32)), .val (.ref b2), .unset, .unset, .unset, .unset, .unset] [(.ref b2)])) rfl (by rw [hml]; rfl) (Steps.refl _) (argsL := []) (rest := []) (lenOf pd_5 rfl) rfl (by show 2 * 0 + _ ≤ _; exact Nat.le_of_eq rfl) (hb hby at_14) (fun _ _ => ⟨rfl, eq9, (by decide : 0 + 0 ≤ _), (by decide : 0 + 0 ≤ _)⟩)
    dsimp only [Pt.U, Pt.locs, Pt.cells, Pt.slots] at X10 l10 y10 z10 st10 hQ10
    subst l10 y10 z10
    obtain ⟨rfl, Nq10, eq10⟩ := hQ10
    have N10 := Fr.app N9 Nq10
    refine Runs.by (fun _ hr => st10.trans hr) ?_
    show Runs p e below _ (T10.setTop (mkF m 17 #[.val (.int p0), .val (.int (2 : Int32)), .val (.ref b2), .unset, .unset, .unset, .unset, .unset] [(.ref y2)]))
    refine Runs.by (fun _ hr => XS.astoreN X10.here hx rfl (hb hby at_17) rfl rfl (l' := #[.val (.int p0), .val (.int (2 : Int32)), .val (.ref b2), .val (.ref y2), .unset, .unset, .unset, .unset]) rfl hr) ?_
    show Runs p e below _ (T10.setTop (mkF m 18 #[.val (.int p0), .val (.int (2 : Int32)), .val (.ref b2), .val (.ref y2), .unset, .unset, .unset, .unset] []))
    refine Runs.by (fun _ hr => XS.aloadN X10.here hx rfl (hb hby at_18) rfl rfl hr) ?_
    show Runs p e below _ (T10.setTop (mkF m 19 #[.val (.int p0), .val (.int (2 : Int32)), .val (.ref b2), .val (.ref y2), .unset, .unset, .unset, .unset] [(.ref y2)]))
    refine Runs.by (fun _ hr => XS.iconst X10.here hx rfl (hb hby at_19) hr) ?_
    show Runs p e below _ (T10.setTop (mkF m 20 #[.val (.int p0), .val (.int (2 : Int32)), .val (.ref b2), .val (.ref y2), .unset, .unset, .unset, .unset] [(.int (0 : Int32)), (.ref y2)]))
    obtain ⟨cq11, kq11, q11a, q11b, q11c⟩ := isOf hZ eq10 ES2
    obtain ⟨_, _, ⟨T11, L11, k11, n11⟩, -, X11, ⟨Lc11, hQ11, l11, y11, z11⟩, st11⟩ := X10.virtualBack hx (y := (⟨"java/lang/String", "charAt", "(I)C"⟩ : MethodName)) (z := (⟨"java/lang/String", "charAt", "(I)C"⟩ : MethodName)) hown (mvT hZ (hw _ (List.mem_of_getElem? (i := 15) rfl))) (mvT hZ (hw _ (List.mem_of_getElem? (i := 16) rfl))) (notFace_of_selects (args := #[]) (mvT hZ (hw _ (List.mem_of_getElem? (i := 18) rfl)))) (mvT hZ (hw _ (List.mem_of_getElem? (i := 18) rfl))) (mvT hZ (hw _ (List.mem_of_getElem? (i := 17) rfl))) (by decide) (backOf (W := 0) (rm3 l Z a0 hw [] y2 (0 : Int32) gC vG v2 k2 (1 : Int32) [(.int (60 : Int32))] (.int (0 : Int32)) (60 : Int32) h0 n0 (Nat.le_trans Z0 K0.1) ES2 SC cC FC2 FV2 hvG ⟨by decide, by decide⟩ SG V2 rfl) hZ (hw _ (List.mem_of_getElem? (i := 20) rfl)) (hw _ (List.mem_of_getElem? (i := 19) rfl)) (by decide) (by decide)) q11a q11c (g := (mkF m 20 #[.val (.int p0), .val (.int (2 : Int32)), .val (.ref b2), .val (.ref y2), .unset, .unset, .unset, .unset] [(.int (0 : Int32)), (.ref y2)])) rfl (by rw [hml]; rfl) (Steps.refl _) (argsL := [(.int (0 : Int32))]) (rest := []) (lenOf pd_6 rfl) rfl (by show 2 * 0 + _ ≤ _; exact Nat.le_of_eq rfl) (hb hby at_20) (fun _ _ => ⟨rfl, eq10, (by decide : 0 + 0 ≤ _), (by decide : 0 + 0 ≤ _)⟩)
    dsimp only [Pt.U, Pt.locs, Pt.cells, Pt.slots] at X11 l11 y11 z11 st11 hQ11
    subst l11 y11 z11
    obtain ⟨rfl, Nq11, eq11⟩ := hQ11
    have N11 := Fr.app N10 Nq11
    refine Runs.by (fun _ hr => st11.trans hr) ?_
    rw [show (((60 : Int32) &&& (255 : Int32)).toUInt32.toUInt16.toUInt32.toInt32) = (60 : Int32) from by decide]
    show Runs p e below _ (T11.setTop (mkF m 23 #[.val (.int p0), .val (.int (2 : Int32)), .val (.ref b2), .val (.ref y2), .unset, .unset, .unset, .unset] [(.int (60 : Int32))]))
    refine Runs.by (fun _ hr => XS.istore X11.here hx rfl (hb hby at_23) rfl (l' := #[.val (.int p0), .val (.int (2 : Int32)), .val (.ref b2), .val (.ref y2), .val (.int (60 : Int32)), .unset, .unset, .unset]) rfl hr) ?_
    show Runs p e below _ (T11.setTop (mkF m 25 #[.val (.int p0), .val (.int (2 : Int32)), .val (.ref b2), .val (.ref y2), .val (.int (60 : Int32)), .unset, .unset, .unset] []))
    refine Runs.by (fun _ hr => XS.iload X11.here hx rfl (hb hby at_25) rfl  hr) ?_
    show Runs p e below _ (T11.setTop (mkF m 27 #[.val (.int p0), .val (.int (2 : Int32)), .val (.ref b2), .val (.ref y2), .val (.int (60 : Int32)), .unset, .unset, .unset] [(.int (60 : Int32))]))
    refine Runs.by (fun _ hr => XS.bipush X11.here hx rfl (hb hby at_27) hr) ?_
    show Runs p e below _ (T11.setTop (mkF m 29 #[.val (.int p0), .val (.int (2 : Int32)), .val (.ref b2), .val (.ref y2), .val (.int (60 : Int32)), .unset, .unset, .unset] [(.int (60 : Int32)), (.int (60 : Int32))]))
    have hc29 : (60 : Int32) = (60 : Int32) := (by decide)
    refine Runs.by (fun _ hr => XS.icmpYes X11.here hx rfl (pc0 := 29) (pc' := 39) rfl (hb hby at_29) rfl (teq hc29).1 (by decide) (by decide) hr) ?_
    show Runs p e below _ (T11.setTop (mkF m 39 #[.val (.int p0), .val (.int (2 : Int32)), .val (.ref b2), .val (.ref y2), .val (.int (60 : Int32)), .unset, .unset, .unset] []))
    refine Runs.by (fun _ hr => XS.iconst X11.here hx rfl (hb hby at_39) hr) ?_
    show Runs p e below _ (T11.setTop (mkF m 40 #[.val (.int p0), .val (.int (2 : Int32)), .val (.ref b2), .val (.ref y2), .val (.int (60 : Int32)), .unset, .unset, .unset] [(.int (1 : Int32))]))
    refine Runs.by (fun _ hr => XS.goto X11.here hx rfl (pc0 := 40) (pc' := 44) rfl (hb hby at_40) (by decide) (by decide) hr) ?_
    show Runs p e below _ (T11.setTop (mkF m 44 #[.val (.int p0), .val (.int (2 : Int32)), .val (.ref b2), .val (.ref y2), .val (.int (60 : Int32)), .unset, .unset, .unset] [(.int (1 : Int32))]))
    refine Runs.by (fun _ hr => XS.istore X11.here hx rfl (hb hby at_44) rfl (l' := #[.val (.int p0), .val (.int (2 : Int32)), .val (.ref b2), .val (.ref y2), .val (.int (60 : Int32)), .val (.int (1 : Int32)), .unset, .unset]) rfl hr) ?_
    show Runs p e below _ (T11.setTop (mkF m 46 #[.val (.int p0), .val (.int (2 : Int32)), .val (.ref b2), .val (.ref y2), .val (.int (60 : Int32)), .val (.int (1 : Int32)), .unset, .unset] []))
    refine Runs.by (fun _ hr => XS.iloadN X11.here hx rfl (hb hby at_46) rfl  hr) ?_
    show Runs p e below _ (T11.setTop (mkF m 47 #[.val (.int p0), .val (.int (2 : Int32)), .val (.ref b2), .val (.ref y2), .val (.int (60 : Int32)), .val (.int (1 : Int32)), .unset, .unset] [(.int (2 : Int32))]))
    refine Runs.by (fun _ hr => XS.iconst X11.here hx rfl (hb hby at_47) hr) ?_
    show Runs p e below _ (T11.setTop (mkF m 48 #[.val (.int p0), .val (.int (2 : Int32)), .val (.ref b2), .val (.ref y2), .val (.int (60 : Int32)), .val (.int (1 : Int32)), .unset, .unset] [(.int (2 : Int32)), (.int (2 : Int32))]))
    have hc48 : ¬ ((2 : Int32) < (2 : Int32)) := (by decide)
    refine Runs.by (fun _ hr => XS.icmpNo X11.here hx rfl (hb hby at_48) rfl (flt hc48).1 hr) ?_
    show Runs p e below _ (T11.setTop (mkF m 51 #[.val (.int p0), .val (.int (2 : Int32)), .val (.ref b2), .val (.ref y2), .val (.int (60 : Int32)), .val (.int (1 : Int32)), .unset, .unset] []))
    refine Runs.by (fun _ hr => XS.iconst X11.here hx rfl (hb hby at_51) hr) ?_
    show Runs p e below _ (T11.setTop (mkF m 52 #[.val (.int p0), .val (.int (2 : Int32)), .val (.ref b2), .val (.ref y2), .val (.int (60 : Int32)), .val (.int (1 : Int32)), .unset, .unset] [(.int (1 : Int32))]))
    refine Runs.by (fun _ hr => XS.goto X11.here hx rfl (pc0 := 52) (pc' := 56) rfl (hb hby at_52) (by decide) (by decide) hr) ?_
    show Runs p e below _ (T11.setTop (mkF m 56 #[.val (.int p0), .val (.int (2 : Int32)), .val (.ref b2), .val (.ref y2), .val (.int (60 : Int32)), .val (.int (1 : Int32)), .unset, .unset] [(.int (1 : Int32))]))
    refine Runs.by (fun _ hr => XS.istore X11.here hx rfl (hb hby at_56) rfl (l' := #[.val (.int p0), .val (.int (2 : Int32)), .val (.ref b2), .val (.ref y2), .val (.int (60 : Int32)), .val (.int (1 : Int32)), .val (.int (1 : Int32)), .unset]) rfl hr) ?_
    show Runs p e below _ (T11.setTop (mkF m 58 #[.val (.int p0), .val (.int (2 : Int32)), .val (.ref b2), .val (.ref y2), .val (.int (60 : Int32)), .val (.int (1 : Int32)), .val (.int (1 : Int32)), .unset] []))
    refine Runs.by (fun _ hr => XS.aloadN X11.here hx rfl (hb hby at_58) rfl rfl hr) ?_
    show Runs p e below _ (T11.setTop (mkF m 59 #[.val (.int p0), .val (.int (2 : Int32)), .val (.ref b2), .val (.ref y2), .val (.int (60 : Int32)), .val (.int (1 : Int32)), .val (.int (1 : Int32)), .unset] [(.ref b2)]))
    obtain ⟨cq12, kq12, q12a, q12b, q12c⟩ := isOf hZ eq11 E2
    obtain ⟨_, _, ⟨T12, L12, k12, n12⟩, -, X12, ⟨Lc12, hQ12, l12, y12, z12⟩, st12⟩ := X11.virtualBack hx (y := (⟨"com/example/tollgate/tollgate/policy/Condition$Comparator", "orders", "()Z"⟩ : MethodName)) (z := (⟨"com/example/tollgate/tollgate/policy/Condition$Comparator", "orders", "()Z"⟩ : MethodName)) hown (mvT hZ (hw _ (List.mem_of_getElem? (i := 43) rfl))) (mvT hZ (hw _ (List.mem_of_getElem? (i := 44) rfl))) (notFace_of_selects (args := #[]) (mvT hZ (hw _ (List.mem_of_getElem? (i := 46) rfl)))) (mvT hZ (hw _ (List.mem_of_getElem? (i := 46) rfl))) (mvT hZ (hw _ (List.mem_of_getElem? (i := 45) rfl))) (by decide) (backOf (W := 0) (rm8 l Z a0 hw [] b2 b0 b1 h0 n0 (Nat.le_trans Z0 K0.1) S0 S1) hZ (hw _ (List.mem_of_getElem? (i := 47) rfl)) (hw _ (List.mem_of_getElem? (i := 6) rfl)) (by decide) (by decide)) q12a q12c (g := (mkF m 59 #[.val (.int p0), .val (.int (2 : Int32)), .val (.ref b2), .val (.ref y2), .val (.int (60 : Int32)), .val (.int (1 : Int32)), .val (.int (1 : Int32)), .unset] [(.ref b2)])) rfl (by rw [hml]; rfl) (Steps.refl _) (argsL := []) (rest := []) (lenOf pd_2 rfl) rfl (by show 2 * 0 + _ ≤ _; exact Nat.le_of_eq rfl) (hb hby at_59) (fun _ _ => ⟨rfl, eq11, (by decide : 0 + 0 ≤ _), (by decide : 0 + 0 ≤ _)⟩)
    dsimp only [Pt.U, Pt.locs, Pt.cells, Pt.slots] at X12 l12 y12 z12 st12 hQ12
    subst l12 y12 z12
    obtain ⟨rfl, Nq12, eq12⟩ := hQ12
    have N12 := Fr.app N11 Nq12
    refine Runs.by (fun _ hr => st12.trans hr) ?_
    rw [show own_ord b0 b1 b2 = (1 : Int32) from by simp [own_ord, nE2_0, nE2_1]]
    show Runs p e below _ (T12.setTop (mkF m 62 #[.val (.int p0), .val (.int (2 : Int32)), .val (.ref b2), .val (.ref y2), .val (.int (60 : Int32)), .val (.int (1 : Int32)), .val (.int (1 : Int32)), .unset] [(.int (1 : Int32))]))
    refine Runs.by (fun _ hr => XS.istore X12.here hx rfl (hb hby at_62) rfl (l' := #[.val (.int p0), .val (.int (2 : Int32)), .val (.ref b2), .val (.ref y2), .val (.int (60 : Int32)), .val (.int (1 : Int32)), .val (.int (1 : Int32)), .val (.int (1 : Int32))]) rfl hr) ?_
    show Runs p e below _ (T12.setTop (mkF m 64 #[.val (.int p0), .val (.int (2 : Int32)), .val (.ref b2), .val (.ref y2), .val (.int (60 : Int32)), .val (.int (1 : Int32)), .val (.int (1 : Int32)), .val (.int (1 : Int32))] []))
    refine Runs.by (fun _ hr => XS.iload X12.here hx rfl (hb hby at_64) rfl  hr) ?_
    show Runs p e below _ (T12.setTop (mkF m 66 #[.val (.int p0), .val (.int (2 : Int32)), .val (.ref b2), .val (.ref y2), .val (.int (60 : Int32)), .val (.int (1 : Int32)), .val (.int (1 : Int32)), .val (.int (1 : Int32))] [(.int (1 : Int32))]))
    refine Runs.by (fun _ hr => XS.iload X12.here hx rfl (hb hby at_66) rfl  hr) ?_
    show Runs p e below _ (T12.setTop (mkF m 68 #[.val (.int p0), .val (.int (2 : Int32)), .val (.ref b2), .val (.ref y2), .val (.int (60 : Int32)), .val (.int (1 : Int32)), .val (.int (1 : Int32)), .val (.int (1 : Int32))] [(.int (1 : Int32)), (.int (1 : Int32))]))
    have hc68 : (1 : Int32) = (1 : Int32) := (by decide)
    refine Runs.by (fun _ hr => XS.icmpNo X12.here hx rfl (hb hby at_68) rfl (teq hc68).2 hr) ?_
    show Runs p e below _ (T12.setTop (mkF m 71 #[.val (.int p0), .val (.int (2 : Int32)), .val (.ref b2), .val (.ref y2), .val (.int (60 : Int32)), .val (.int (1 : Int32)), .val (.int (1 : Int32)), .val (.int (1 : Int32))] []))
    refine Runs.by (fun _ hr => XS.iload X12.here hx rfl (hb hby at_71) rfl  hr) ?_
    show Runs p e below _ (T12.setTop (mkF m 73 #[.val (.int p0), .val (.int (2 : Int32)), .val (.ref b2), .val (.ref y2), .val (.int (60 : Int32)), .val (.int (1 : Int32)), .val (.int (1 : Int32)), .val (.int (1 : Int32))] [(.int (1 : Int32))]))
    refine Runs.by (fun _ hr => XS.iload X12.here hx rfl (hb hby at_73) rfl  hr) ?_
    show Runs p e below _ (T12.setTop (mkF m 75 #[.val (.int p0), .val (.int (2 : Int32)), .val (.ref b2), .val (.ref y2), .val (.int (60 : Int32)), .val (.int (1 : Int32)), .val (.int (1 : Int32)), .val (.int (1 : Int32))] [(.int (1 : Int32)), (.int (1 : Int32))]))
    have hc75 : (1 : Int32) = (1 : Int32) := (by decide)
    refine Runs.by (fun _ hr => XS.icmpNo X12.here hx rfl (hb hby at_75) rfl (teq hc75).2 hr) ?_
    show Runs p e below _ (T12.setTop (mkF m 78 #[.val (.int p0), .val (.int (2 : Int32)), .val (.ref b2), .val (.ref y2), .val (.int (60 : Int32)), .val (.int (1 : Int32)), .val (.int (1 : Int32)), .val (.int (1 : Int32))] []))
    refine Runs.by (fun _ hr => XS.iconst X12.here hx rfl (hb hby at_78) hr) ?_
    show Runs p e below _ (T12.setTop (mkF m 79 #[.val (.int p0), .val (.int (2 : Int32)), .val (.ref b2), .val (.ref y2), .val (.int (60 : Int32)), .val (.int (1 : Int32)), .val (.int (1 : Int32)), .val (.int (1 : Int32))] [(.int (1 : Int32))]))
    refine Runs.by (fun _ hr => XS.goto X12.here hx rfl (pc0 := 79) (pc' := 83) rfl (hb hby at_79) (by decide) (by decide) hr) ?_
    show Runs p e below _ (T12.setTop (mkF m 83 #[.val (.int p0), .val (.int (2 : Int32)), .val (.ref b2), .val (.ref y2), .val (.int (60 : Int32)), .val (.int (1 : Int32)), .val (.int (1 : Int32)), .val (.int (1 : Int32))] [(.int (1 : Int32))]))
    refine Runs.ret X12 hx hrt hlk (Or.inl ⟨rfl, by simp, _, rfl⟩) (by rfl) (hb hby at_83) (by decide) (by decide) ?_
    rw [eq12]
    exact ⟨rfl, N12⟩
  · skip
    show Runs p e below _ (s₁.setTop (mkF m 8 #[.val (.int p0), .val (.int (3 : Int32)), .unset, .unset, .unset, .unset, .unset, .unset] []))
    refine Runs.by (fun _ hr => XS.iloadN X0.here hx rfl (hb hby at_8) rfl  hr) ?_
    show Runs p e below _ (s₁.setTop (mkF m 9 #[.val (.int p0), .val (.int (3 : Int32)), .unset, .unset, .unset, .unset, .unset, .unset] [(.int (3 : Int32))]))
    obtain ⟨_, _, ⟨T13, L13, k13, n13⟩, -, X13, ⟨Lc13, hQ13, l13, y13, z13⟩, st13⟩ := Jvm.LawKit.callS X0 hx (y := (⟨"com/example/tollgate/tollgate/policy/ComparatorOrdersPinLaw", "pick", "(I)Lcom/example/tollgate/tollgate/policy/Condition$Comparator;"⟩ : MethodName)) hown (mvT hZ (hw _ (List.mem_of_getElem? (i := 1) rfl))) (mvT hZ (hw _ (List.mem_of_getElem? (i := 2) rfl))) (mvT hZ (hw _ (List.mem_of_getElem? (i := 3) rfl))) (mvT hZ (hw _ (List.mem_of_getElem? (i := 4) rfl))) (by decide) (backOf (W := 0) (rm1 l Z a0 hw [] (3 : Int32) b0 b1 b2 b3 b4 b5 h0 n0 (Nat.le_trans Z0 K0.1) S0 S1 S2 S3 S4 S5) hZ (hw _ (List.mem_of_getElem? (i := 4) rfl)) (hw _ (List.mem_of_getElem? (i := 3) rfl)) (by decide) (by decide)) (g := (mkF m 9 #[.val (.int p0), .val (.int (3 : Int32)), .unset, .unset, .unset, .unset, .unset, .unset] [(.int (3 : Int32))])) rfl (by rw [hml]; rfl) (argsL := [(.int (3 : Int32))]) (rest := []) (lenOf pd_4 rfl) rfl (by show 2 * 0 + _ ≤ _; exact Nat.le_of_eq rfl) (hb hby at_9) (fun _ _ => ⟨rfl, e0, (by decide : 0 + 0 ≤ _), (by decide : 0 + 0 ≤ _)⟩)
    dsimp only [Pt.U, Pt.locs, Pt.cells, Pt.slots] at X13 l13 y13 z13 st13 hQ13
    subst l13 y13 z13
    obtain ⟨rfl, Nq13, eq13⟩ := hQ13
    have N13 := Fr.app N0 Nq13
    refine Runs.by (fun t hr => st13 t hr) ?_
    rw [show own_pick b0 b1 b2 b3 b4 b5 (3 : Int32) = b3 from rfl]
    show Runs p e below _ (T13.setTop (mkF m 12 #[.val (.int p0), .val (.int (3 : Int32)), .unset, .unset, .unset, .unset, .unset, .unset] [(.ref b3)]))
    refine Runs.by (fun _ hr => XS.astoreN X13.here hx rfl (hb hby at_12) rfl rfl (l' := #[.val (.int p0), .val (.int (3 : Int32)), .val (.ref b3), .unset, .unset, .unset, .unset, .unset]) rfl hr) ?_
    show Runs p e below _ (T13.setTop (mkF m 13 #[.val (.int p0), .val (.int (3 : Int32)), .val (.ref b3), .unset, .unset, .unset, .unset, .unset] []))
    refine Runs.by (fun _ hr => XS.aloadN X13.here hx rfl (hb hby at_13) rfl rfl hr) ?_
    show Runs p e below _ (T13.setTop (mkF m 14 #[.val (.int p0), .val (.int (3 : Int32)), .val (.ref b3), .unset, .unset, .unset, .unset, .unset] [(.ref b3)]))
    obtain ⟨cq14, kq14, q14a, q14b, q14c⟩ := isOf hZ eq13 E3
    obtain ⟨_, _, ⟨T14, L14, k14, n14⟩, -, X14, ⟨Lc14, hQ14, l14, y14, z14⟩, st14⟩ := X13.virtualBack hx (y := (⟨"com/example/tollgate/tollgate/policy/Condition$Comparator", "toString", "()Ljava/lang/String;"⟩ : MethodName)) (z := (⟨"com/example/tollgate/tollgate/policy/Condition$Comparator", "toString", "()Ljava/lang/String;"⟩ : MethodName)) hown (mvT hZ (hw _ (List.mem_of_getElem? (i := 8) rfl))) (mvT hZ (hw _ (List.mem_of_getElem? (i := 9) rfl))) (notFace_of_selects (args := #[]) (mvT hZ (hw _ (List.mem_of_getElem? (i := 11) rfl)))) (mvT hZ (hw _ (List.mem_of_getElem? (i := 11) rfl))) (mvT hZ (hw _ (List.mem_of_getElem? (i := 10) rfl))) (by decide) (backOf (W := 0) (rm2 l Z a0 hw [] b3 y3 h0 n0 (Nat.le_trans Z0 K0.1) FS3) hZ (hw _ (List.mem_of_getElem? (i := 12) rfl)) (hw _ (List.mem_of_getElem? (i := 6) rfl)) (by decide) (by decide)) q14a q14c (g := (mkF m 14 #[.val (.int p0), .val (.int (3 : Int32)), .val (.ref b3), .unset, .unset, .unset, .unset, .unset] [(.ref b3)])) rfl (by rw [hml]; rfl) (Steps.refl _) (argsL := []) (rest := []) (lenOf pd_5 rfl) rfl (by show 2 * 0 + _ ≤ _; exact Nat.le_of_eq rfl) (hb hby at_14) (fun _ _ => ⟨rfl, eq13, (by decide : 0 + 0 ≤ _), (by decide : 0 + 0 ≤ _)⟩)
    dsimp only [Pt.U, Pt.locs, Pt.cells, Pt.slots] at X14 l14 y14 z14 st14 hQ14
    subst l14 y14 z14
    obtain ⟨rfl, Nq14, eq14⟩ := hQ14
    have N14 := Fr.app N13 Nq14
    refine Runs.by (fun _ hr => st14.trans hr) ?_
    show Runs p e below _ (T14.setTop (mkF m 17 #[.val (.int p0), .val (.int (3 : Int32)), .val (.ref b3), .unset, .unset, .unset, .unset, .unset] [(.ref y3)]))
    refine Runs.by (fun _ hr => XS.astoreN X14.here hx rfl (hb hby at_17) rfl rfl (l' := #[.val (.int p0), .val (.int (3 : Int32)), .val (.ref b3), .val (.ref y3), .unset, .unset, .unset, .unset]) rfl hr) ?_
    show Runs p e below _ (T14.setTop (mkF m 18 #[.val (.int p0), .val (.int (3 : Int32)), .val (.ref b3), .val (.ref y3), .unset, .unset, .unset, .unset] []))
    refine Runs.by (fun _ hr => XS.aloadN X14.here hx rfl (hb hby at_18) rfl rfl hr) ?_
    show Runs p e below _ (T14.setTop (mkF m 19 #[.val (.int p0), .val (.int (3 : Int32)), .val (.ref b3), .val (.ref y3), .unset, .unset, .unset, .unset] [(.ref y3)]))
    refine Runs.by (fun _ hr => XS.iconst X14.here hx rfl (hb hby at_19) hr) ?_
    show Runs p e below _ (T14.setTop (mkF m 20 #[.val (.int p0), .val (.int (3 : Int32)), .val (.ref b3), .val (.ref y3), .unset, .unset, .unset, .unset] [(.int (0 : Int32)), (.ref y3)]))
    obtain ⟨cq15, kq15, q15a, q15b, q15c⟩ := isOf hZ eq14 ES3
    obtain ⟨_, _, ⟨T15, L15, k15, n15⟩, -, X15, ⟨Lc15, hQ15, l15, y15, z15⟩, st15⟩ := X14.virtualBack hx (y := (⟨"java/lang/String", "charAt", "(I)C"⟩ : MethodName)) (z := (⟨"java/lang/String", "charAt", "(I)C"⟩ : MethodName)) hown (mvT hZ (hw _ (List.mem_of_getElem? (i := 15) rfl))) (mvT hZ (hw _ (List.mem_of_getElem? (i := 16) rfl))) (notFace_of_selects (args := #[]) (mvT hZ (hw _ (List.mem_of_getElem? (i := 18) rfl)))) (mvT hZ (hw _ (List.mem_of_getElem? (i := 18) rfl))) (mvT hZ (hw _ (List.mem_of_getElem? (i := 17) rfl))) (by decide) (backOf (W := 0) (rm3 l Z a0 hw [] y3 (0 : Int32) gC vG v3 k3 (2 : Int32) [(.int (60 : Int32)), (.int (61 : Int32))] (.int (0 : Int32)) (60 : Int32) h0 n0 (Nat.le_trans Z0 K0.1) ES3 SC cC FC3 FV3 hvG ⟨by decide, by decide⟩ SG V3 rfl) hZ (hw _ (List.mem_of_getElem? (i := 20) rfl)) (hw _ (List.mem_of_getElem? (i := 19) rfl)) (by decide) (by decide)) q15a q15c (g := (mkF m 20 #[.val (.int p0), .val (.int (3 : Int32)), .val (.ref b3), .val (.ref y3), .unset, .unset, .unset, .unset] [(.int (0 : Int32)), (.ref y3)])) rfl (by rw [hml]; rfl) (Steps.refl _) (argsL := [(.int (0 : Int32))]) (rest := []) (lenOf pd_6 rfl) rfl (by show 2 * 0 + _ ≤ _; exact Nat.le_of_eq rfl) (hb hby at_20) (fun _ _ => ⟨rfl, eq14, (by decide : 0 + 0 ≤ _), (by decide : 0 + 0 ≤ _)⟩)
    dsimp only [Pt.U, Pt.locs, Pt.cells, Pt.slots] at X15 l15 y15 z15 st15 hQ15
    subst l15 y15 z15
    obtain ⟨rfl, Nq15, eq15⟩ := hQ15
    have N15 := Fr.app N14 Nq15
    refine Runs.by (fun _ hr => st15.trans hr) ?_
    rw [show (((60 : Int32) &&& (255 : Int32)).toUInt32.toUInt16.toUInt32.toInt32) = (60 : Int32) from by decide]
    show Runs p e below _ (T15.setTop (mkF m 23 #[.val (.int p0), .val (.int (3 : Int32)), .val (.ref b3), .val (.ref y3), .unset, .unset, .unset, .unset] [(.int (60 : Int32))]))
    refine Runs.by (fun _ hr => XS.istore X15.here hx rfl (hb hby at_23) rfl (l' := #[.val (.int p0), .val (.int (3 : Int32)), .val (.ref b3), .val (.ref y3), .val (.int (60 : Int32)), .unset, .unset, .unset]) rfl hr) ?_
    show Runs p e below _ (T15.setTop (mkF m 25 #[.val (.int p0), .val (.int (3 : Int32)), .val (.ref b3), .val (.ref y3), .val (.int (60 : Int32)), .unset, .unset, .unset] []))
    refine Runs.by (fun _ hr => XS.iload X15.here hx rfl (hb hby at_25) rfl  hr) ?_
    show Runs p e below _ (T15.setTop (mkF m 27 #[.val (.int p0), .val (.int (3 : Int32)), .val (.ref b3), .val (.ref y3), .val (.int (60 : Int32)), .unset, .unset, .unset] [(.int (60 : Int32))]))
    refine Runs.by (fun _ hr => XS.bipush X15.here hx rfl (hb hby at_27) hr) ?_
    show Runs p e below _ (T15.setTop (mkF m 29 #[.val (.int p0), .val (.int (3 : Int32)), .val (.ref b3), .val (.ref y3), .val (.int (60 : Int32)), .unset, .unset, .unset] [(.int (60 : Int32)), (.int (60 : Int32))]))
    have hc29 : (60 : Int32) = (60 : Int32) := (by decide)
    refine Runs.by (fun _ hr => XS.icmpYes X15.here hx rfl (pc0 := 29) (pc' := 39) rfl (hb hby at_29) rfl (teq hc29).1 (by decide) (by decide) hr) ?_
    show Runs p e below _ (T15.setTop (mkF m 39 #[.val (.int p0), .val (.int (3 : Int32)), .val (.ref b3), .val (.ref y3), .val (.int (60 : Int32)), .unset, .unset, .unset] []))
    refine Runs.by (fun _ hr => XS.iconst X15.here hx rfl (hb hby at_39) hr) ?_
    show Runs p e below _ (T15.setTop (mkF m 40 #[.val (.int p0), .val (.int (3 : Int32)), .val (.ref b3), .val (.ref y3), .val (.int (60 : Int32)), .unset, .unset, .unset] [(.int (1 : Int32))]))
    refine Runs.by (fun _ hr => XS.goto X15.here hx rfl (pc0 := 40) (pc' := 44) rfl (hb hby at_40) (by decide) (by decide) hr) ?_
    show Runs p e below _ (T15.setTop (mkF m 44 #[.val (.int p0), .val (.int (3 : Int32)), .val (.ref b3), .val (.ref y3), .val (.int (60 : Int32)), .unset, .unset, .unset] [(.int (1 : Int32))]))
    refine Runs.by (fun _ hr => XS.istore X15.here hx rfl (hb hby at_44) rfl (l' := #[.val (.int p0), .val (.int (3 : Int32)), .val (.ref b3), .val (.ref y3), .val (.int (60 : Int32)), .val (.int (1 : Int32)), .unset, .unset]) rfl hr) ?_
    show Runs p e below _ (T15.setTop (mkF m 46 #[.val (.int p0), .val (.int (3 : Int32)), .val (.ref b3), .val (.ref y3), .val (.int (60 : Int32)), .val (.int (1 : Int32)), .unset, .unset] []))
    refine Runs.by (fun _ hr => XS.iloadN X15.here hx rfl (hb hby at_46) rfl  hr) ?_
    show Runs p e below _ (T15.setTop (mkF m 47 #[.val (.int p0), .val (.int (3 : Int32)), .val (.ref b3), .val (.ref y3), .val (.int (60 : Int32)), .val (.int (1 : Int32)), .unset, .unset] [(.int (3 : Int32))]))
    refine Runs.by (fun _ hr => XS.iconst X15.here hx rfl (hb hby at_47) hr) ?_
    show Runs p e below _ (T15.setTop (mkF m 48 #[.val (.int p0), .val (.int (3 : Int32)), .val (.ref b3), .val (.ref y3), .val (.int (60 : Int32)), .val (.int (1 : Int32)), .unset, .unset] [(.int (2 : Int32)), (.int (3 : Int32))]))
    have hc48 : ¬ ((3 : Int32) < (2 : Int32)) := (by decide)
    refine Runs.by (fun _ hr => XS.icmpNo X15.here hx rfl (hb hby at_48) rfl (flt hc48).1 hr) ?_
    show Runs p e below _ (T15.setTop (mkF m 51 #[.val (.int p0), .val (.int (3 : Int32)), .val (.ref b3), .val (.ref y3), .val (.int (60 : Int32)), .val (.int (1 : Int32)), .unset, .unset] []))
    refine Runs.by (fun _ hr => XS.iconst X15.here hx rfl (hb hby at_51) hr) ?_
    show Runs p e below _ (T15.setTop (mkF m 52 #[.val (.int p0), .val (.int (3 : Int32)), .val (.ref b3), .val (.ref y3), .val (.int (60 : Int32)), .val (.int (1 : Int32)), .unset, .unset] [(.int (1 : Int32))]))
    refine Runs.by (fun _ hr => XS.goto X15.here hx rfl (pc0 := 52) (pc' := 56) rfl (hb hby at_52) (by decide) (by decide) hr) ?_
    show Runs p e below _ (T15.setTop (mkF m 56 #[.val (.int p0), .val (.int (3 : Int32)), .val (.ref b3), .val (.ref y3), .val (.int (60 : Int32)), .val (.int (1 : Int32)), .unset, .unset] [(.int (1 : Int32))]))
    refine Runs.by (fun _ hr => XS.istore X15.here hx rfl (hb hby at_56) rfl (l' := #[.val (.int p0), .val (.int (3 : Int32)), .val (.ref b3), .val (.ref y3), .val (.int (60 : Int32)), .val (.int (1 : Int32)), .val (.int (1 : Int32)), .unset]) rfl hr) ?_
    show Runs p e below _ (T15.setTop (mkF m 58 #[.val (.int p0), .val (.int (3 : Int32)), .val (.ref b3), .val (.ref y3), .val (.int (60 : Int32)), .val (.int (1 : Int32)), .val (.int (1 : Int32)), .unset] []))
    refine Runs.by (fun _ hr => XS.aloadN X15.here hx rfl (hb hby at_58) rfl rfl hr) ?_
    show Runs p e below _ (T15.setTop (mkF m 59 #[.val (.int p0), .val (.int (3 : Int32)), .val (.ref b3), .val (.ref y3), .val (.int (60 : Int32)), .val (.int (1 : Int32)), .val (.int (1 : Int32)), .unset] [(.ref b3)]))
    obtain ⟨cq16, kq16, q16a, q16b, q16c⟩ := isOf hZ eq15 E3
    obtain ⟨_, _, ⟨T16, L16, k16, n16⟩, -, X16, ⟨Lc16, hQ16, l16, y16, z16⟩, st16⟩ := X15.virtualBack hx (y := (⟨"com/example/tollgate/tollgate/policy/Condition$Comparator", "orders", "()Z"⟩ : MethodName)) (z := (⟨"com/example/tollgate/tollgate/policy/Condition$Comparator", "orders", "()Z"⟩ : MethodName)) hown (mvT hZ (hw _ (List.mem_of_getElem? (i := 43) rfl))) (mvT hZ (hw _ (List.mem_of_getElem? (i := 44) rfl))) (notFace_of_selects (args := #[]) (mvT hZ (hw _ (List.mem_of_getElem? (i := 46) rfl)))) (mvT hZ (hw _ (List.mem_of_getElem? (i := 46) rfl))) (mvT hZ (hw _ (List.mem_of_getElem? (i := 45) rfl))) (by decide) (backOf (W := 0) (rm8 l Z a0 hw [] b3 b0 b1 h0 n0 (Nat.le_trans Z0 K0.1) S0 S1) hZ (hw _ (List.mem_of_getElem? (i := 47) rfl)) (hw _ (List.mem_of_getElem? (i := 6) rfl)) (by decide) (by decide)) q16a q16c (g := (mkF m 59 #[.val (.int p0), .val (.int (3 : Int32)), .val (.ref b3), .val (.ref y3), .val (.int (60 : Int32)), .val (.int (1 : Int32)), .val (.int (1 : Int32)), .unset] [(.ref b3)])) rfl (by rw [hml]; rfl) (Steps.refl _) (argsL := []) (rest := []) (lenOf pd_2 rfl) rfl (by show 2 * 0 + _ ≤ _; exact Nat.le_of_eq rfl) (hb hby at_59) (fun _ _ => ⟨rfl, eq15, (by decide : 0 + 0 ≤ _), (by decide : 0 + 0 ≤ _)⟩)
    dsimp only [Pt.U, Pt.locs, Pt.cells, Pt.slots] at X16 l16 y16 z16 st16 hQ16
    subst l16 y16 z16
    obtain ⟨rfl, Nq16, eq16⟩ := hQ16
    have N16 := Fr.app N15 Nq16
    refine Runs.by (fun _ hr => st16.trans hr) ?_
    rw [show own_ord b0 b1 b3 = (1 : Int32) from by simp [own_ord, nE3_0, nE3_1]]
    show Runs p e below _ (T16.setTop (mkF m 62 #[.val (.int p0), .val (.int (3 : Int32)), .val (.ref b3), .val (.ref y3), .val (.int (60 : Int32)), .val (.int (1 : Int32)), .val (.int (1 : Int32)), .unset] [(.int (1 : Int32))]))
    refine Runs.by (fun _ hr => XS.istore X16.here hx rfl (hb hby at_62) rfl (l' := #[.val (.int p0), .val (.int (3 : Int32)), .val (.ref b3), .val (.ref y3), .val (.int (60 : Int32)), .val (.int (1 : Int32)), .val (.int (1 : Int32)), .val (.int (1 : Int32))]) rfl hr) ?_
    show Runs p e below _ (T16.setTop (mkF m 64 #[.val (.int p0), .val (.int (3 : Int32)), .val (.ref b3), .val (.ref y3), .val (.int (60 : Int32)), .val (.int (1 : Int32)), .val (.int (1 : Int32)), .val (.int (1 : Int32))] []))
    refine Runs.by (fun _ hr => XS.iload X16.here hx rfl (hb hby at_64) rfl  hr) ?_
    show Runs p e below _ (T16.setTop (mkF m 66 #[.val (.int p0), .val (.int (3 : Int32)), .val (.ref b3), .val (.ref y3), .val (.int (60 : Int32)), .val (.int (1 : Int32)), .val (.int (1 : Int32)), .val (.int (1 : Int32))] [(.int (1 : Int32))]))
    refine Runs.by (fun _ hr => XS.iload X16.here hx rfl (hb hby at_66) rfl  hr) ?_
    show Runs p e below _ (T16.setTop (mkF m 68 #[.val (.int p0), .val (.int (3 : Int32)), .val (.ref b3), .val (.ref y3), .val (.int (60 : Int32)), .val (.int (1 : Int32)), .val (.int (1 : Int32)), .val (.int (1 : Int32))] [(.int (1 : Int32)), (.int (1 : Int32))]))
    have hc68 : (1 : Int32) = (1 : Int32) := (by decide)
    refine Runs.by (fun _ hr => XS.icmpNo X16.here hx rfl (hb hby at_68) rfl (teq hc68).2 hr) ?_
    show Runs p e below _ (T16.setTop (mkF m 71 #[.val (.int p0), .val (.int (3 : Int32)), .val (.ref b3), .val (.ref y3), .val (.int (60 : Int32)), .val (.int (1 : Int32)), .val (.int (1 : Int32)), .val (.int (1 : Int32))] []))
    refine Runs.by (fun _ hr => XS.iload X16.here hx rfl (hb hby at_71) rfl  hr) ?_
    show Runs p e below _ (T16.setTop (mkF m 73 #[.val (.int p0), .val (.int (3 : Int32)), .val (.ref b3), .val (.ref y3), .val (.int (60 : Int32)), .val (.int (1 : Int32)), .val (.int (1 : Int32)), .val (.int (1 : Int32))] [(.int (1 : Int32))]))
    refine Runs.by (fun _ hr => XS.iload X16.here hx rfl (hb hby at_73) rfl  hr) ?_
    show Runs p e below _ (T16.setTop (mkF m 75 #[.val (.int p0), .val (.int (3 : Int32)), .val (.ref b3), .val (.ref y3), .val (.int (60 : Int32)), .val (.int (1 : Int32)), .val (.int (1 : Int32)), .val (.int (1 : Int32))] [(.int (1 : Int32)), (.int (1 : Int32))]))
    have hc75 : (1 : Int32) = (1 : Int32) := (by decide)
    refine Runs.by (fun _ hr => XS.icmpNo X16.here hx rfl (hb hby at_75) rfl (teq hc75).2 hr) ?_
    show Runs p e below _ (T16.setTop (mkF m 78 #[.val (.int p0), .val (.int (3 : Int32)), .val (.ref b3), .val (.ref y3), .val (.int (60 : Int32)), .val (.int (1 : Int32)), .val (.int (1 : Int32)), .val (.int (1 : Int32))] []))
    refine Runs.by (fun _ hr => XS.iconst X16.here hx rfl (hb hby at_78) hr) ?_
    show Runs p e below _ (T16.setTop (mkF m 79 #[.val (.int p0), .val (.int (3 : Int32)), .val (.ref b3), .val (.ref y3), .val (.int (60 : Int32)), .val (.int (1 : Int32)), .val (.int (1 : Int32)), .val (.int (1 : Int32))] [(.int (1 : Int32))]))
    refine Runs.by (fun _ hr => XS.goto X16.here hx rfl (pc0 := 79) (pc' := 83) rfl (hb hby at_79) (by decide) (by decide) hr) ?_
    show Runs p e below _ (T16.setTop (mkF m 83 #[.val (.int p0), .val (.int (3 : Int32)), .val (.ref b3), .val (.ref y3), .val (.int (60 : Int32)), .val (.int (1 : Int32)), .val (.int (1 : Int32)), .val (.int (1 : Int32))] [(.int (1 : Int32))]))
    refine Runs.ret X16 hx hrt hlk (Or.inl ⟨rfl, by simp, _, rfl⟩) (by rfl) (hb hby at_83) (by decide) (by decide) ?_
    rw [eq16]
    exact ⟨rfl, N16⟩
  · skip
    show Runs p e below _ (s₁.setTop (mkF m 8 #[.val (.int p0), .val (.int (4 : Int32)), .unset, .unset, .unset, .unset, .unset, .unset] []))
    refine Runs.by (fun _ hr => XS.iloadN X0.here hx rfl (hb hby at_8) rfl  hr) ?_
    show Runs p e below _ (s₁.setTop (mkF m 9 #[.val (.int p0), .val (.int (4 : Int32)), .unset, .unset, .unset, .unset, .unset, .unset] [(.int (4 : Int32))]))
    obtain ⟨_, _, ⟨T17, L17, k17, n17⟩, -, X17, ⟨Lc17, hQ17, l17, y17, z17⟩, st17⟩ := Jvm.LawKit.callS X0 hx (y := (⟨"com/example/tollgate/tollgate/policy/ComparatorOrdersPinLaw", "pick", "(I)Lcom/example/tollgate/tollgate/policy/Condition$Comparator;"⟩ : MethodName)) hown (mvT hZ (hw _ (List.mem_of_getElem? (i := 1) rfl))) (mvT hZ (hw _ (List.mem_of_getElem? (i := 2) rfl))) (mvT hZ (hw _ (List.mem_of_getElem? (i := 3) rfl))) (mvT hZ (hw _ (List.mem_of_getElem? (i := 4) rfl))) (by decide) (backOf (W := 0) (rm1 l Z a0 hw [] (4 : Int32) b0 b1 b2 b3 b4 b5 h0 n0 (Nat.le_trans Z0 K0.1) S0 S1 S2 S3 S4 S5) hZ (hw _ (List.mem_of_getElem? (i := 4) rfl)) (hw _ (List.mem_of_getElem? (i := 3) rfl)) (by decide) (by decide)) (g := (mkF m 9 #[.val (.int p0), .val (.int (4 : Int32)), .unset, .unset, .unset, .unset, .unset, .unset] [(.int (4 : Int32))])) rfl (by rw [hml]; rfl) (argsL := [(.int (4 : Int32))]) (rest := []) (lenOf pd_4 rfl) rfl (by show 2 * 0 + _ ≤ _; exact Nat.le_of_eq rfl) (hb hby at_9) (fun _ _ => ⟨rfl, e0, (by decide : 0 + 0 ≤ _), (by decide : 0 + 0 ≤ _)⟩)
    dsimp only [Pt.U, Pt.locs, Pt.cells, Pt.slots] at X17 l17 y17 z17 st17 hQ17
    subst l17 y17 z17
    obtain ⟨rfl, Nq17, eq17⟩ := hQ17
    have N17 := Fr.app N0 Nq17
    refine Runs.by (fun t hr => st17 t hr) ?_
    rw [show own_pick b0 b1 b2 b3 b4 b5 (4 : Int32) = b4 from rfl]
    show Runs p e below _ (T17.setTop (mkF m 12 #[.val (.int p0), .val (.int (4 : Int32)), .unset, .unset, .unset, .unset, .unset, .unset] [(.ref b4)]))
    refine Runs.by (fun _ hr => XS.astoreN X17.here hx rfl (hb hby at_12) rfl rfl (l' := #[.val (.int p0), .val (.int (4 : Int32)), .val (.ref b4), .unset, .unset, .unset, .unset, .unset]) rfl hr) ?_
    show Runs p e below _ (T17.setTop (mkF m 13 #[.val (.int p0), .val (.int (4 : Int32)), .val (.ref b4), .unset, .unset, .unset, .unset, .unset] []))
    refine Runs.by (fun _ hr => XS.aloadN X17.here hx rfl (hb hby at_13) rfl rfl hr) ?_
    show Runs p e below _ (T17.setTop (mkF m 14 #[.val (.int p0), .val (.int (4 : Int32)), .val (.ref b4), .unset, .unset, .unset, .unset, .unset] [(.ref b4)]))
    obtain ⟨cq18, kq18, q18a, q18b, q18c⟩ := isOf hZ eq17 E4
    obtain ⟨_, _, ⟨T18, L18, k18, n18⟩, -, X18, ⟨Lc18, hQ18, l18, y18, z18⟩, st18⟩ := X17.virtualBack hx (y := (⟨"com/example/tollgate/tollgate/policy/Condition$Comparator", "toString", "()Ljava/lang/String;"⟩ : MethodName)) (z := (⟨"com/example/tollgate/tollgate/policy/Condition$Comparator", "toString", "()Ljava/lang/String;"⟩ : MethodName)) hown (mvT hZ (hw _ (List.mem_of_getElem? (i := 8) rfl))) (mvT hZ (hw _ (List.mem_of_getElem? (i := 9) rfl))) (notFace_of_selects (args := #[]) (mvT hZ (hw _ (List.mem_of_getElem? (i := 11) rfl)))) (mvT hZ (hw _ (List.mem_of_getElem? (i := 11) rfl))) (mvT hZ (hw _ (List.mem_of_getElem? (i := 10) rfl))) (by decide) (backOf (W := 0) (rm2 l Z a0 hw [] b4 y4 h0 n0 (Nat.le_trans Z0 K0.1) FS4) hZ (hw _ (List.mem_of_getElem? (i := 12) rfl)) (hw _ (List.mem_of_getElem? (i := 6) rfl)) (by decide) (by decide)) q18a q18c (g := (mkF m 14 #[.val (.int p0), .val (.int (4 : Int32)), .val (.ref b4), .unset, .unset, .unset, .unset, .unset] [(.ref b4)])) rfl (by rw [hml]; rfl) (Steps.refl _) (argsL := []) (rest := []) (lenOf pd_5 rfl) rfl (by show 2 * 0 + _ ≤ _; exact Nat.le_of_eq rfl) (hb hby at_14) (fun _ _ => ⟨rfl, eq17, (by decide : 0 + 0 ≤ _), (by decide : 0 + 0 ≤ _)⟩)
    dsimp only [Pt.U, Pt.locs, Pt.cells, Pt.slots] at X18 l18 y18 z18 st18 hQ18
    subst l18 y18 z18
    obtain ⟨rfl, Nq18, eq18⟩ := hQ18
    have N18 := Fr.app N17 Nq18
    refine Runs.by (fun _ hr => st18.trans hr) ?_
    show Runs p e below _ (T18.setTop (mkF m 17 #[.val (.int p0), .val (.int (4 : Int32)), .val (.ref b4), .unset, .unset, .unset, .unset, .unset] [(.ref y4)]))
    refine Runs.by (fun _ hr => XS.astoreN X18.here hx rfl (hb hby at_17) rfl rfl (l' := #[.val (.int p0), .val (.int (4 : Int32)), .val (.ref b4), .val (.ref y4), .unset, .unset, .unset, .unset]) rfl hr) ?_
    show Runs p e below _ (T18.setTop (mkF m 18 #[.val (.int p0), .val (.int (4 : Int32)), .val (.ref b4), .val (.ref y4), .unset, .unset, .unset, .unset] []))
    refine Runs.by (fun _ hr => XS.aloadN X18.here hx rfl (hb hby at_18) rfl rfl hr) ?_
    show Runs p e below _ (T18.setTop (mkF m 19 #[.val (.int p0), .val (.int (4 : Int32)), .val (.ref b4), .val (.ref y4), .unset, .unset, .unset, .unset] [(.ref y4)]))
    refine Runs.by (fun _ hr => XS.iconst X18.here hx rfl (hb hby at_19) hr) ?_
    show Runs p e below _ (T18.setTop (mkF m 20 #[.val (.int p0), .val (.int (4 : Int32)), .val (.ref b4), .val (.ref y4), .unset, .unset, .unset, .unset] [(.int (0 : Int32)), (.ref y4)]))
    obtain ⟨cq19, kq19, q19a, q19b, q19c⟩ := isOf hZ eq18 ES4
    obtain ⟨_, _, ⟨T19, L19, k19, n19⟩, -, X19, ⟨Lc19, hQ19, l19, y19, z19⟩, st19⟩ := X18.virtualBack hx (y := (⟨"java/lang/String", "charAt", "(I)C"⟩ : MethodName)) (z := (⟨"java/lang/String", "charAt", "(I)C"⟩ : MethodName)) hown (mvT hZ (hw _ (List.mem_of_getElem? (i := 15) rfl))) (mvT hZ (hw _ (List.mem_of_getElem? (i := 16) rfl))) (notFace_of_selects (args := #[]) (mvT hZ (hw _ (List.mem_of_getElem? (i := 18) rfl)))) (mvT hZ (hw _ (List.mem_of_getElem? (i := 18) rfl))) (mvT hZ (hw _ (List.mem_of_getElem? (i := 17) rfl))) (by decide) (backOf (W := 0) (rm3 l Z a0 hw [] y4 (0 : Int32) gC vG v4 k4 (1 : Int32) [(.int (62 : Int32))] (.int (0 : Int32)) (62 : Int32) h0 n0 (Nat.le_trans Z0 K0.1) ES4 SC cC FC4 FV4 hvG ⟨by decide, by decide⟩ SG V4 rfl) hZ (hw _ (List.mem_of_getElem? (i := 20) rfl)) (hw _ (List.mem_of_getElem? (i := 19) rfl)) (by decide) (by decide)) q19a q19c (g := (mkF m 20 #[.val (.int p0), .val (.int (4 : Int32)), .val (.ref b4), .val (.ref y4), .unset, .unset, .unset, .unset] [(.int (0 : Int32)), (.ref y4)])) rfl (by rw [hml]; rfl) (Steps.refl _) (argsL := [(.int (0 : Int32))]) (rest := []) (lenOf pd_6 rfl) rfl (by show 2 * 0 + _ ≤ _; exact Nat.le_of_eq rfl) (hb hby at_20) (fun _ _ => ⟨rfl, eq18, (by decide : 0 + 0 ≤ _), (by decide : 0 + 0 ≤ _)⟩)
    dsimp only [Pt.U, Pt.locs, Pt.cells, Pt.slots] at X19 l19 y19 z19 st19 hQ19
    subst l19 y19 z19
    obtain ⟨rfl, Nq19, eq19⟩ := hQ19
    have N19 := Fr.app N18 Nq19
    refine Runs.by (fun _ hr => st19.trans hr) ?_
    rw [show (((62 : Int32) &&& (255 : Int32)).toUInt32.toUInt16.toUInt32.toInt32) = (62 : Int32) from by decide]
    show Runs p e below _ (T19.setTop (mkF m 23 #[.val (.int p0), .val (.int (4 : Int32)), .val (.ref b4), .val (.ref y4), .unset, .unset, .unset, .unset] [(.int (62 : Int32))]))
    refine Runs.by (fun _ hr => XS.istore X19.here hx rfl (hb hby at_23) rfl (l' := #[.val (.int p0), .val (.int (4 : Int32)), .val (.ref b4), .val (.ref y4), .val (.int (62 : Int32)), .unset, .unset, .unset]) rfl hr) ?_
    show Runs p e below _ (T19.setTop (mkF m 25 #[.val (.int p0), .val (.int (4 : Int32)), .val (.ref b4), .val (.ref y4), .val (.int (62 : Int32)), .unset, .unset, .unset] []))
    refine Runs.by (fun _ hr => XS.iload X19.here hx rfl (hb hby at_25) rfl  hr) ?_
    show Runs p e below _ (T19.setTop (mkF m 27 #[.val (.int p0), .val (.int (4 : Int32)), .val (.ref b4), .val (.ref y4), .val (.int (62 : Int32)), .unset, .unset, .unset] [(.int (62 : Int32))]))
    refine Runs.by (fun _ hr => XS.bipush X19.here hx rfl (hb hby at_27) hr) ?_
    show Runs p e below _ (T19.setTop (mkF m 29 #[.val (.int p0), .val (.int (4 : Int32)), .val (.ref b4), .val (.ref y4), .val (.int (62 : Int32)), .unset, .unset, .unset] [(.int (60 : Int32)), (.int (62 : Int32))]))
    have hc29 : ¬ ((62 : Int32) = (60 : Int32)) := (by decide)
    refine Runs.by (fun _ hr => XS.icmpNo X19.here hx rfl (hb hby at_29) rfl (feq hc29).1 hr) ?_
    show Runs p e below _ (T19.setTop (mkF m 32 #[.val (.int p0), .val (.int (4 : Int32)), .val (.ref b4), .val (.ref y4), .val (.int (62 : Int32)), .unset, .unset, .unset] []))
    refine Runs.by (fun _ hr => XS.iload X19.here hx rfl (hb hby at_32) rfl  hr) ?_
    show Runs p e below _ (T19.setTop (mkF m 34 #[.val (.int p0), .val (.int (4 : Int32)), .val (.ref b4), .val (.ref y4), .val (.int (62 : Int32)), .unset, .unset, .unset] [(.int (62 : Int32))]))
    refine Runs.by (fun _ hr => XS.bipush X19.here hx rfl (hb hby at_34) hr) ?_
    show Runs p e below _ (T19.setTop (mkF m 36 #[.val (.int p0), .val (.int (4 : Int32)), .val (.ref b4), .val (.ref y4), .val (.int (62 : Int32)), .unset, .unset, .unset] [(.int (62 : Int32)), (.int (62 : Int32))]))
    have hc36 : (62 : Int32) = (62 : Int32) := (by decide)
    refine Runs.by (fun _ hr => XS.icmpNo X19.here hx rfl (hb hby at_36) rfl (teq hc36).2 hr) ?_
    show Runs p e below _ (T19.setTop (mkF m 39 #[.val (.int p0), .val (.int (4 : Int32)), .val (.ref b4), .val (.ref y4), .val (.int (62 : Int32)), .unset, .unset, .unset] []))
    refine Runs.by (fun _ hr => XS.iconst X19.here hx rfl (hb hby at_39) hr) ?_
    show Runs p e below _ (T19.setTop (mkF m 40 #[.val (.int p0), .val (.int (4 : Int32)), .val (.ref b4), .val (.ref y4), .val (.int (62 : Int32)), .unset, .unset, .unset] [(.int (1 : Int32))]))
    refine Runs.by (fun _ hr => XS.goto X19.here hx rfl (pc0 := 40) (pc' := 44) rfl (hb hby at_40) (by decide) (by decide) hr) ?_
    show Runs p e below _ (T19.setTop (mkF m 44 #[.val (.int p0), .val (.int (4 : Int32)), .val (.ref b4), .val (.ref y4), .val (.int (62 : Int32)), .unset, .unset, .unset] [(.int (1 : Int32))]))
    refine Runs.by (fun _ hr => XS.istore X19.here hx rfl (hb hby at_44) rfl (l' := #[.val (.int p0), .val (.int (4 : Int32)), .val (.ref b4), .val (.ref y4), .val (.int (62 : Int32)), .val (.int (1 : Int32)), .unset, .unset]) rfl hr) ?_
    show Runs p e below _ (T19.setTop (mkF m 46 #[.val (.int p0), .val (.int (4 : Int32)), .val (.ref b4), .val (.ref y4), .val (.int (62 : Int32)), .val (.int (1 : Int32)), .unset, .unset] []))
    refine Runs.by (fun _ hr => XS.iloadN X19.here hx rfl (hb hby at_46) rfl  hr) ?_
    show Runs p e below _ (T19.setTop (mkF m 47 #[.val (.int p0), .val (.int (4 : Int32)), .val (.ref b4), .val (.ref y4), .val (.int (62 : Int32)), .val (.int (1 : Int32)), .unset, .unset] [(.int (4 : Int32))]))
    refine Runs.by (fun _ hr => XS.iconst X19.here hx rfl (hb hby at_47) hr) ?_
    show Runs p e below _ (T19.setTop (mkF m 48 #[.val (.int p0), .val (.int (4 : Int32)), .val (.ref b4), .val (.ref y4), .val (.int (62 : Int32)), .val (.int (1 : Int32)), .unset, .unset] [(.int (2 : Int32)), (.int (4 : Int32))]))
    have hc48 : ¬ ((4 : Int32) < (2 : Int32)) := (by decide)
    refine Runs.by (fun _ hr => XS.icmpNo X19.here hx rfl (hb hby at_48) rfl (flt hc48).1 hr) ?_
    show Runs p e below _ (T19.setTop (mkF m 51 #[.val (.int p0), .val (.int (4 : Int32)), .val (.ref b4), .val (.ref y4), .val (.int (62 : Int32)), .val (.int (1 : Int32)), .unset, .unset] []))
    refine Runs.by (fun _ hr => XS.iconst X19.here hx rfl (hb hby at_51) hr) ?_
    show Runs p e below _ (T19.setTop (mkF m 52 #[.val (.int p0), .val (.int (4 : Int32)), .val (.ref b4), .val (.ref y4), .val (.int (62 : Int32)), .val (.int (1 : Int32)), .unset, .unset] [(.int (1 : Int32))]))
    refine Runs.by (fun _ hr => XS.goto X19.here hx rfl (pc0 := 52) (pc' := 56) rfl (hb hby at_52) (by decide) (by decide) hr) ?_
    show Runs p e below _ (T19.setTop (mkF m 56 #[.val (.int p0), .val (.int (4 : Int32)), .val (.ref b4), .val (.ref y4), .val (.int (62 : Int32)), .val (.int (1 : Int32)), .unset, .unset] [(.int (1 : Int32))]))
    refine Runs.by (fun _ hr => XS.istore X19.here hx rfl (hb hby at_56) rfl (l' := #[.val (.int p0), .val (.int (4 : Int32)), .val (.ref b4), .val (.ref y4), .val (.int (62 : Int32)), .val (.int (1 : Int32)), .val (.int (1 : Int32)), .unset]) rfl hr) ?_
    show Runs p e below _ (T19.setTop (mkF m 58 #[.val (.int p0), .val (.int (4 : Int32)), .val (.ref b4), .val (.ref y4), .val (.int (62 : Int32)), .val (.int (1 : Int32)), .val (.int (1 : Int32)), .unset] []))
    refine Runs.by (fun _ hr => XS.aloadN X19.here hx rfl (hb hby at_58) rfl rfl hr) ?_
    show Runs p e below _ (T19.setTop (mkF m 59 #[.val (.int p0), .val (.int (4 : Int32)), .val (.ref b4), .val (.ref y4), .val (.int (62 : Int32)), .val (.int (1 : Int32)), .val (.int (1 : Int32)), .unset] [(.ref b4)]))
    obtain ⟨cq20, kq20, q20a, q20b, q20c⟩ := isOf hZ eq19 E4
    obtain ⟨_, _, ⟨T20, L20, k20, n20⟩, -, X20, ⟨Lc20, hQ20, l20, y20, z20⟩, st20⟩ := X19.virtualBack hx (y := (⟨"com/example/tollgate/tollgate/policy/Condition$Comparator", "orders", "()Z"⟩ : MethodName)) (z := (⟨"com/example/tollgate/tollgate/policy/Condition$Comparator", "orders", "()Z"⟩ : MethodName)) hown (mvT hZ (hw _ (List.mem_of_getElem? (i := 43) rfl))) (mvT hZ (hw _ (List.mem_of_getElem? (i := 44) rfl))) (notFace_of_selects (args := #[]) (mvT hZ (hw _ (List.mem_of_getElem? (i := 46) rfl)))) (mvT hZ (hw _ (List.mem_of_getElem? (i := 46) rfl))) (mvT hZ (hw _ (List.mem_of_getElem? (i := 45) rfl))) (by decide) (backOf (W := 0) (rm8 l Z a0 hw [] b4 b0 b1 h0 n0 (Nat.le_trans Z0 K0.1) S0 S1) hZ (hw _ (List.mem_of_getElem? (i := 47) rfl)) (hw _ (List.mem_of_getElem? (i := 6) rfl)) (by decide) (by decide)) q20a q20c (g := (mkF m 59 #[.val (.int p0), .val (.int (4 : Int32)), .val (.ref b4), .val (.ref y4), .val (.int (62 : Int32)), .val (.int (1 : Int32)), .val (.int (1 : Int32)), .unset] [(.ref b4)])) rfl (by rw [hml]; rfl) (Steps.refl _) (argsL := []) (rest := []) (lenOf pd_2 rfl) rfl (by show 2 * 0 + _ ≤ _; exact Nat.le_of_eq rfl) (hb hby at_59) (fun _ _ => ⟨rfl, eq19, (by decide : 0 + 0 ≤ _), (by decide : 0 + 0 ≤ _)⟩)
    dsimp only [Pt.U, Pt.locs, Pt.cells, Pt.slots] at X20 l20 y20 z20 st20 hQ20
    subst l20 y20 z20
    obtain ⟨rfl, Nq20, eq20⟩ := hQ20
    have N20 := Fr.app N19 Nq20
    refine Runs.by (fun _ hr => st20.trans hr) ?_
    rw [show own_ord b0 b1 b4 = (1 : Int32) from by simp [own_ord, nE4_0, nE4_1]]
    show Runs p e below _ (T20.setTop (mkF m 62 #[.val (.int p0), .val (.int (4 : Int32)), .val (.ref b4), .val (.ref y4), .val (.int (62 : Int32)), .val (.int (1 : Int32)), .val (.int (1 : Int32)), .unset] [(.int (1 : Int32))]))
    refine Runs.by (fun _ hr => XS.istore X20.here hx rfl (hb hby at_62) rfl (l' := #[.val (.int p0), .val (.int (4 : Int32)), .val (.ref b4), .val (.ref y4), .val (.int (62 : Int32)), .val (.int (1 : Int32)), .val (.int (1 : Int32)), .val (.int (1 : Int32))]) rfl hr) ?_
    show Runs p e below _ (T20.setTop (mkF m 64 #[.val (.int p0), .val (.int (4 : Int32)), .val (.ref b4), .val (.ref y4), .val (.int (62 : Int32)), .val (.int (1 : Int32)), .val (.int (1 : Int32)), .val (.int (1 : Int32))] []))
    refine Runs.by (fun _ hr => XS.iload X20.here hx rfl (hb hby at_64) rfl  hr) ?_
    show Runs p e below _ (T20.setTop (mkF m 66 #[.val (.int p0), .val (.int (4 : Int32)), .val (.ref b4), .val (.ref y4), .val (.int (62 : Int32)), .val (.int (1 : Int32)), .val (.int (1 : Int32)), .val (.int (1 : Int32))] [(.int (1 : Int32))]))
    refine Runs.by (fun _ hr => XS.iload X20.here hx rfl (hb hby at_66) rfl  hr) ?_
    show Runs p e below _ (T20.setTop (mkF m 68 #[.val (.int p0), .val (.int (4 : Int32)), .val (.ref b4), .val (.ref y4), .val (.int (62 : Int32)), .val (.int (1 : Int32)), .val (.int (1 : Int32)), .val (.int (1 : Int32))] [(.int (1 : Int32)), (.int (1 : Int32))]))
    have hc68 : (1 : Int32) = (1 : Int32) := (by decide)
    refine Runs.by (fun _ hr => XS.icmpNo X20.here hx rfl (hb hby at_68) rfl (teq hc68).2 hr) ?_
    show Runs p e below _ (T20.setTop (mkF m 71 #[.val (.int p0), .val (.int (4 : Int32)), .val (.ref b4), .val (.ref y4), .val (.int (62 : Int32)), .val (.int (1 : Int32)), .val (.int (1 : Int32)), .val (.int (1 : Int32))] []))
    refine Runs.by (fun _ hr => XS.iload X20.here hx rfl (hb hby at_71) rfl  hr) ?_
    show Runs p e below _ (T20.setTop (mkF m 73 #[.val (.int p0), .val (.int (4 : Int32)), .val (.ref b4), .val (.ref y4), .val (.int (62 : Int32)), .val (.int (1 : Int32)), .val (.int (1 : Int32)), .val (.int (1 : Int32))] [(.int (1 : Int32))]))
    refine Runs.by (fun _ hr => XS.iload X20.here hx rfl (hb hby at_73) rfl  hr) ?_
    show Runs p e below _ (T20.setTop (mkF m 75 #[.val (.int p0), .val (.int (4 : Int32)), .val (.ref b4), .val (.ref y4), .val (.int (62 : Int32)), .val (.int (1 : Int32)), .val (.int (1 : Int32)), .val (.int (1 : Int32))] [(.int (1 : Int32)), (.int (1 : Int32))]))
    have hc75 : (1 : Int32) = (1 : Int32) := (by decide)
    refine Runs.by (fun _ hr => XS.icmpNo X20.here hx rfl (hb hby at_75) rfl (teq hc75).2 hr) ?_
    show Runs p e below _ (T20.setTop (mkF m 78 #[.val (.int p0), .val (.int (4 : Int32)), .val (.ref b4), .val (.ref y4), .val (.int (62 : Int32)), .val (.int (1 : Int32)), .val (.int (1 : Int32)), .val (.int (1 : Int32))] []))
    refine Runs.by (fun _ hr => XS.iconst X20.here hx rfl (hb hby at_78) hr) ?_
    show Runs p e below _ (T20.setTop (mkF m 79 #[.val (.int p0), .val (.int (4 : Int32)), .val (.ref b4), .val (.ref y4), .val (.int (62 : Int32)), .val (.int (1 : Int32)), .val (.int (1 : Int32)), .val (.int (1 : Int32))] [(.int (1 : Int32))]))
    refine Runs.by (fun _ hr => XS.goto X20.here hx rfl (pc0 := 79) (pc' := 83) rfl (hb hby at_79) (by decide) (by decide) hr) ?_
    show Runs p e below _ (T20.setTop (mkF m 83 #[.val (.int p0), .val (.int (4 : Int32)), .val (.ref b4), .val (.ref y4), .val (.int (62 : Int32)), .val (.int (1 : Int32)), .val (.int (1 : Int32)), .val (.int (1 : Int32))] [(.int (1 : Int32))]))
    refine Runs.ret X20 hx hrt hlk (Or.inl ⟨rfl, by simp, _, rfl⟩) (by rfl) (hb hby at_83) (by decide) (by decide) ?_
    rw [eq20]
    exact ⟨rfl, N20⟩
  · skip
    show Runs p e below _ (s₁.setTop (mkF m 8 #[.val (.int p0), .val (.int (5 : Int32)), .unset, .unset, .unset, .unset, .unset, .unset] []))
    refine Runs.by (fun _ hr => XS.iloadN X0.here hx rfl (hb hby at_8) rfl  hr) ?_
    show Runs p e below _ (s₁.setTop (mkF m 9 #[.val (.int p0), .val (.int (5 : Int32)), .unset, .unset, .unset, .unset, .unset, .unset] [(.int (5 : Int32))]))
    obtain ⟨_, _, ⟨T21, L21, k21, n21⟩, -, X21, ⟨Lc21, hQ21, l21, y21, z21⟩, st21⟩ := Jvm.LawKit.callS X0 hx (y := (⟨"com/example/tollgate/tollgate/policy/ComparatorOrdersPinLaw", "pick", "(I)Lcom/example/tollgate/tollgate/policy/Condition$Comparator;"⟩ : MethodName)) hown (mvT hZ (hw _ (List.mem_of_getElem? (i := 1) rfl))) (mvT hZ (hw _ (List.mem_of_getElem? (i := 2) rfl))) (mvT hZ (hw _ (List.mem_of_getElem? (i := 3) rfl))) (mvT hZ (hw _ (List.mem_of_getElem? (i := 4) rfl))) (by decide) (backOf (W := 0) (rm1 l Z a0 hw [] (5 : Int32) b0 b1 b2 b3 b4 b5 h0 n0 (Nat.le_trans Z0 K0.1) S0 S1 S2 S3 S4 S5) hZ (hw _ (List.mem_of_getElem? (i := 4) rfl)) (hw _ (List.mem_of_getElem? (i := 3) rfl)) (by decide) (by decide)) (g := (mkF m 9 #[.val (.int p0), .val (.int (5 : Int32)), .unset, .unset, .unset, .unset, .unset, .unset] [(.int (5 : Int32))])) rfl (by rw [hml]; rfl) (argsL := [(.int (5 : Int32))]) (rest := []) (lenOf pd_4 rfl) rfl (by show 2 * 0 + _ ≤ _; exact Nat.le_of_eq rfl) (hb hby at_9) (fun _ _ => ⟨rfl, e0, (by decide : 0 + 0 ≤ _), (by decide : 0 + 0 ≤ _)⟩)
    dsimp only [Pt.U, Pt.locs, Pt.cells, Pt.slots] at X21 l21 y21 z21 st21 hQ21
    subst l21 y21 z21
    obtain ⟨rfl, Nq21, eq21⟩ := hQ21
    have N21 := Fr.app N0 Nq21
    refine Runs.by (fun t hr => st21 t hr) ?_
    rw [show own_pick b0 b1 b2 b3 b4 b5 (5 : Int32) = b5 from rfl]
    show Runs p e below _ (T21.setTop (mkF m 12 #[.val (.int p0), .val (.int (5 : Int32)), .unset, .unset, .unset, .unset, .unset, .unset] [(.ref b5)]))
    refine Runs.by (fun _ hr => XS.astoreN X21.here hx rfl (hb hby at_12) rfl rfl (l' := #[.val (.int p0), .val (.int (5 : Int32)), .val (.ref b5), .unset, .unset, .unset, .unset, .unset]) rfl hr) ?_
    show Runs p e below _ (T21.setTop (mkF m 13 #[.val (.int p0), .val (.int (5 : Int32)), .val (.ref b5), .unset, .unset, .unset, .unset, .unset] []))
    refine Runs.by (fun _ hr => XS.aloadN X21.here hx rfl (hb hby at_13) rfl rfl hr) ?_
    show Runs p e below _ (T21.setTop (mkF m 14 #[.val (.int p0), .val (.int (5 : Int32)), .val (.ref b5), .unset, .unset, .unset, .unset, .unset] [(.ref b5)]))
    obtain ⟨cq22, kq22, q22a, q22b, q22c⟩ := isOf hZ eq21 E5
    obtain ⟨_, _, ⟨T22, L22, k22, n22⟩, -, X22, ⟨Lc22, hQ22, l22, y22, z22⟩, st22⟩ := X21.virtualBack hx (y := (⟨"com/example/tollgate/tollgate/policy/Condition$Comparator", "toString", "()Ljava/lang/String;"⟩ : MethodName)) (z := (⟨"com/example/tollgate/tollgate/policy/Condition$Comparator", "toString", "()Ljava/lang/String;"⟩ : MethodName)) hown (mvT hZ (hw _ (List.mem_of_getElem? (i := 8) rfl))) (mvT hZ (hw _ (List.mem_of_getElem? (i := 9) rfl))) (notFace_of_selects (args := #[]) (mvT hZ (hw _ (List.mem_of_getElem? (i := 11) rfl)))) (mvT hZ (hw _ (List.mem_of_getElem? (i := 11) rfl))) (mvT hZ (hw _ (List.mem_of_getElem? (i := 10) rfl))) (by decide) (backOf (W := 0) (rm2 l Z a0 hw [] b5 y5 h0 n0 (Nat.le_trans Z0 K0.1) FS5) hZ (hw _ (List.mem_of_getElem? (i := 12) rfl)) (hw _ (List.mem_of_getElem? (i := 6) rfl)) (by decide) (by decide)) q22a q22c (g := (mkF m 14 #[.val (.int p0), .val (.int (5 : Int32)), .val (.ref b5), .unset, .unset, .unset, .unset, .unset] [(.ref b5)])) rfl (by rw [hml]; rfl) (Steps.refl _) (argsL := []) (rest := []) (lenOf pd_5 rfl) rfl (by show 2 * 0 + _ ≤ _; exact Nat.le_of_eq rfl) (hb hby at_14) (fun _ _ => ⟨rfl, eq21, (by decide : 0 + 0 ≤ _), (by decide : 0 + 0 ≤ _)⟩)
    dsimp only [Pt.U, Pt.locs, Pt.cells, Pt.slots] at X22 l22 y22 z22 st22 hQ22
    subst l22 y22 z22
    obtain ⟨rfl, Nq22, eq22⟩ := hQ22
    have N22 := Fr.app N21 Nq22
    refine Runs.by (fun _ hr => st22.trans hr) ?_
    show Runs p e below _ (T22.setTop (mkF m 17 #[.val (.int p0), .val (.int (5 : Int32)), .val (.ref b5), .unset, .unset, .unset, .unset, .unset] [(.ref y5)]))
    refine Runs.by (fun _ hr => XS.astoreN X22.here hx rfl (hb hby at_17) rfl rfl (l' := #[.val (.int p0), .val (.int (5 : Int32)), .val (.ref b5), .val (.ref y5), .unset, .unset, .unset, .unset]) rfl hr) ?_
    show Runs p e below _ (T22.setTop (mkF m 18 #[.val (.int p0), .val (.int (5 : Int32)), .val (.ref b5), .val (.ref y5), .unset, .unset, .unset, .unset] []))
    refine Runs.by (fun _ hr => XS.aloadN X22.here hx rfl (hb hby at_18) rfl rfl hr) ?_
    show Runs p e below _ (T22.setTop (mkF m 19 #[.val (.int p0), .val (.int (5 : Int32)), .val (.ref b5), .val (.ref y5), .unset, .unset, .unset, .unset] [(.ref y5)]))
    refine Runs.by (fun _ hr => XS.iconst X22.here hx rfl (hb hby at_19) hr) ?_
    show Runs p e below _ (T22.setTop (mkF m 20 #[.val (.int p0), .val (.int (5 : Int32)), .val (.ref b5), .val (.ref y5), .unset, .unset, .unset, .unset] [(.int (0 : Int32)), (.ref y5)]))
    obtain ⟨cq23, kq23, q23a, q23b, q23c⟩ := isOf hZ eq22 ES5
    obtain ⟨_, _, ⟨T23, L23, k23, n23⟩, -, X23, ⟨Lc23, hQ23, l23, y23, z23⟩, st23⟩ := X22.virtualBack hx (y := (⟨"java/lang/String", "charAt", "(I)C"⟩ : MethodName)) (z := (⟨"java/lang/String", "charAt", "(I)C"⟩ : MethodName)) hown (mvT hZ (hw _ (List.mem_of_getElem? (i := 15) rfl))) (mvT hZ (hw _ (List.mem_of_getElem? (i := 16) rfl))) (notFace_of_selects (args := #[]) (mvT hZ (hw _ (List.mem_of_getElem? (i := 18) rfl)))) (mvT hZ (hw _ (List.mem_of_getElem? (i := 18) rfl))) (mvT hZ (hw _ (List.mem_of_getElem? (i := 17) rfl))) (by decide) (backOf (W := 0) (rm3 l Z a0 hw [] y5 (0 : Int32) gC vG v5 k5 (2 : Int32) [(.int (62 : Int32)), (.int (61 : Int32))] (.int (0 : Int32)) (62 : Int32) h0 n0 (Nat.le_trans Z0 K0.1) ES5 SC cC FC5 FV5 hvG ⟨by decide, by decide⟩ SG V5 rfl) hZ (hw _ (List.mem_of_getElem? (i := 20) rfl)) (hw _ (List.mem_of_getElem? (i := 19) rfl)) (by decide) (by decide)) q23a q23c (g := (mkF m 20 #[.val (.int p0), .val (.int (5 : Int32)), .val (.ref b5), .val (.ref y5), .unset, .unset, .unset, .unset] [(.int (0 : Int32)), (.ref y5)])) rfl (by rw [hml]; rfl) (Steps.refl _) (argsL := [(.int (0 : Int32))]) (rest := []) (lenOf pd_6 rfl) rfl (by show 2 * 0 + _ ≤ _; exact Nat.le_of_eq rfl) (hb hby at_20) (fun _ _ => ⟨rfl, eq22, (by decide : 0 + 0 ≤ _), (by decide : 0 + 0 ≤ _)⟩)
    dsimp only [Pt.U, Pt.locs, Pt.cells, Pt.slots] at X23 l23 y23 z23 st23 hQ23
    subst l23 y23 z23
    obtain ⟨rfl, Nq23, eq23⟩ := hQ23
    have N23 := Fr.app N22 Nq23
    refine Runs.by (fun _ hr => st23.trans hr) ?_
    rw [show (((62 : Int32) &&& (255 : Int32)).toUInt32.toUInt16.toUInt32.toInt32) = (62 : Int32) from by decide]
    show Runs p e below _ (T23.setTop (mkF m 23 #[.val (.int p0), .val (.int (5 : Int32)), .val (.ref b5), .val (.ref y5), .unset, .unset, .unset, .unset] [(.int (62 : Int32))]))
    refine Runs.by (fun _ hr => XS.istore X23.here hx rfl (hb hby at_23) rfl (l' := #[.val (.int p0), .val (.int (5 : Int32)), .val (.ref b5), .val (.ref y5), .val (.int (62 : Int32)), .unset, .unset, .unset]) rfl hr) ?_
    show Runs p e below _ (T23.setTop (mkF m 25 #[.val (.int p0), .val (.int (5 : Int32)), .val (.ref b5), .val (.ref y5), .val (.int (62 : Int32)), .unset, .unset, .unset] []))
    refine Runs.by (fun _ hr => XS.iload X23.here hx rfl (hb hby at_25) rfl  hr) ?_
    show Runs p e below _ (T23.setTop (mkF m 27 #[.val (.int p0), .val (.int (5 : Int32)), .val (.ref b5), .val (.ref y5), .val (.int (62 : Int32)), .unset, .unset, .unset] [(.int (62 : Int32))]))
    refine Runs.by (fun _ hr => XS.bipush X23.here hx rfl (hb hby at_27) hr) ?_
    show Runs p e below _ (T23.setTop (mkF m 29 #[.val (.int p0), .val (.int (5 : Int32)), .val (.ref b5), .val (.ref y5), .val (.int (62 : Int32)), .unset, .unset, .unset] [(.int (60 : Int32)), (.int (62 : Int32))]))
    have hc29 : ¬ ((62 : Int32) = (60 : Int32)) := (by decide)
    refine Runs.by (fun _ hr => XS.icmpNo X23.here hx rfl (hb hby at_29) rfl (feq hc29).1 hr) ?_
    show Runs p e below _ (T23.setTop (mkF m 32 #[.val (.int p0), .val (.int (5 : Int32)), .val (.ref b5), .val (.ref y5), .val (.int (62 : Int32)), .unset, .unset, .unset] []))
    refine Runs.by (fun _ hr => XS.iload X23.here hx rfl (hb hby at_32) rfl  hr) ?_
    show Runs p e below _ (T23.setTop (mkF m 34 #[.val (.int p0), .val (.int (5 : Int32)), .val (.ref b5), .val (.ref y5), .val (.int (62 : Int32)), .unset, .unset, .unset] [(.int (62 : Int32))]))
    refine Runs.by (fun _ hr => XS.bipush X23.here hx rfl (hb hby at_34) hr) ?_
    show Runs p e below _ (T23.setTop (mkF m 36 #[.val (.int p0), .val (.int (5 : Int32)), .val (.ref b5), .val (.ref y5), .val (.int (62 : Int32)), .unset, .unset, .unset] [(.int (62 : Int32)), (.int (62 : Int32))]))
    have hc36 : (62 : Int32) = (62 : Int32) := (by decide)
    refine Runs.by (fun _ hr => XS.icmpNo X23.here hx rfl (hb hby at_36) rfl (teq hc36).2 hr) ?_
    show Runs p e below _ (T23.setTop (mkF m 39 #[.val (.int p0), .val (.int (5 : Int32)), .val (.ref b5), .val (.ref y5), .val (.int (62 : Int32)), .unset, .unset, .unset] []))
    refine Runs.by (fun _ hr => XS.iconst X23.here hx rfl (hb hby at_39) hr) ?_
    show Runs p e below _ (T23.setTop (mkF m 40 #[.val (.int p0), .val (.int (5 : Int32)), .val (.ref b5), .val (.ref y5), .val (.int (62 : Int32)), .unset, .unset, .unset] [(.int (1 : Int32))]))
    refine Runs.by (fun _ hr => XS.goto X23.here hx rfl (pc0 := 40) (pc' := 44) rfl (hb hby at_40) (by decide) (by decide) hr) ?_
    show Runs p e below _ (T23.setTop (mkF m 44 #[.val (.int p0), .val (.int (5 : Int32)), .val (.ref b5), .val (.ref y5), .val (.int (62 : Int32)), .unset, .unset, .unset] [(.int (1 : Int32))]))
    refine Runs.by (fun _ hr => XS.istore X23.here hx rfl (hb hby at_44) rfl (l' := #[.val (.int p0), .val (.int (5 : Int32)), .val (.ref b5), .val (.ref y5), .val (.int (62 : Int32)), .val (.int (1 : Int32)), .unset, .unset]) rfl hr) ?_
    show Runs p e below _ (T23.setTop (mkF m 46 #[.val (.int p0), .val (.int (5 : Int32)), .val (.ref b5), .val (.ref y5), .val (.int (62 : Int32)), .val (.int (1 : Int32)), .unset, .unset] []))
    refine Runs.by (fun _ hr => XS.iloadN X23.here hx rfl (hb hby at_46) rfl  hr) ?_
    show Runs p e below _ (T23.setTop (mkF m 47 #[.val (.int p0), .val (.int (5 : Int32)), .val (.ref b5), .val (.ref y5), .val (.int (62 : Int32)), .val (.int (1 : Int32)), .unset, .unset] [(.int (5 : Int32))]))
    refine Runs.by (fun _ hr => XS.iconst X23.here hx rfl (hb hby at_47) hr) ?_
    show Runs p e below _ (T23.setTop (mkF m 48 #[.val (.int p0), .val (.int (5 : Int32)), .val (.ref b5), .val (.ref y5), .val (.int (62 : Int32)), .val (.int (1 : Int32)), .unset, .unset] [(.int (2 : Int32)), (.int (5 : Int32))]))
    have hc48 : ¬ ((5 : Int32) < (2 : Int32)) := (by decide)
    refine Runs.by (fun _ hr => XS.icmpNo X23.here hx rfl (hb hby at_48) rfl (flt hc48).1 hr) ?_
    show Runs p e below _ (T23.setTop (mkF m 51 #[.val (.int p0), .val (.int (5 : Int32)), .val (.ref b5), .val (.ref y5), .val (.int (62 : Int32)), .val (.int (1 : Int32)), .unset, .unset] []))
    refine Runs.by (fun _ hr => XS.iconst X23.here hx rfl (hb hby at_51) hr) ?_
    show Runs p e below _ (T23.setTop (mkF m 52 #[.val (.int p0), .val (.int (5 : Int32)), .val (.ref b5), .val (.ref y5), .val (.int (62 : Int32)), .val (.int (1 : Int32)), .unset, .unset] [(.int (1 : Int32))]))
    refine Runs.by (fun _ hr => XS.goto X23.here hx rfl (pc0 := 52) (pc' := 56) rfl (hb hby at_52) (by decide) (by decide) hr) ?_
    show Runs p e below _ (T23.setTop (mkF m 56 #[.val (.int p0), .val (.int (5 : Int32)), .val (.ref b5), .val (.ref y5), .val (.int (62 : Int32)), .val (.int (1 : Int32)), .unset, .unset] [(.int (1 : Int32))]))
    refine Runs.by (fun _ hr => XS.istore X23.here hx rfl (hb hby at_56) rfl (l' := #[.val (.int p0), .val (.int (5 : Int32)), .val (.ref b5), .val (.ref y5), .val (.int (62 : Int32)), .val (.int (1 : Int32)), .val (.int (1 : Int32)), .unset]) rfl hr) ?_
    show Runs p e below _ (T23.setTop (mkF m 58 #[.val (.int p0), .val (.int (5 : Int32)), .val (.ref b5), .val (.ref y5), .val (.int (62 : Int32)), .val (.int (1 : Int32)), .val (.int (1 : Int32)), .unset] []))
    refine Runs.by (fun _ hr => XS.aloadN X23.here hx rfl (hb hby at_58) rfl rfl hr) ?_
    show Runs p e below _ (T23.setTop (mkF m 59 #[.val (.int p0), .val (.int (5 : Int32)), .val (.ref b5), .val (.ref y5), .val (.int (62 : Int32)), .val (.int (1 : Int32)), .val (.int (1 : Int32)), .unset] [(.ref b5)]))
    obtain ⟨cq24, kq24, q24a, q24b, q24c⟩ := isOf hZ eq23 E5
    obtain ⟨_, _, ⟨T24, L24, k24, n24⟩, -, X24, ⟨Lc24, hQ24, l24, y24, z24⟩, st24⟩ := X23.virtualBack hx (y := (⟨"com/example/tollgate/tollgate/policy/Condition$Comparator", "orders", "()Z"⟩ : MethodName)) (z := (⟨"com/example/tollgate/tollgate/policy/Condition$Comparator", "orders", "()Z"⟩ : MethodName)) hown (mvT hZ (hw _ (List.mem_of_getElem? (i := 43) rfl))) (mvT hZ (hw _ (List.mem_of_getElem? (i := 44) rfl))) (notFace_of_selects (args := #[]) (mvT hZ (hw _ (List.mem_of_getElem? (i := 46) rfl)))) (mvT hZ (hw _ (List.mem_of_getElem? (i := 46) rfl))) (mvT hZ (hw _ (List.mem_of_getElem? (i := 45) rfl))) (by decide) (backOf (W := 0) (rm8 l Z a0 hw [] b5 b0 b1 h0 n0 (Nat.le_trans Z0 K0.1) S0 S1) hZ (hw _ (List.mem_of_getElem? (i := 47) rfl)) (hw _ (List.mem_of_getElem? (i := 6) rfl)) (by decide) (by decide)) q24a q24c (g := (mkF m 59 #[.val (.int p0), .val (.int (5 : Int32)), .val (.ref b5), .val (.ref y5), .val (.int (62 : Int32)), .val (.int (1 : Int32)), .val (.int (1 : Int32)), .unset] [(.ref b5)])) rfl (by rw [hml]; rfl) (Steps.refl _) (argsL := []) (rest := []) (lenOf pd_2 rfl) rfl (by show 2 * 0 + _ ≤ _; exact Nat.le_of_eq rfl) (hb hby at_59) (fun _ _ => ⟨rfl, eq23, (by decide : 0 + 0 ≤ _), (by decide : 0 + 0 ≤ _)⟩)
    dsimp only [Pt.U, Pt.locs, Pt.cells, Pt.slots] at X24 l24 y24 z24 st24 hQ24
    subst l24 y24 z24
    obtain ⟨rfl, Nq24, eq24⟩ := hQ24
    have N24 := Fr.app N23 Nq24
    refine Runs.by (fun _ hr => st24.trans hr) ?_
    rw [show own_ord b0 b1 b5 = (1 : Int32) from by simp [own_ord, nE5_0, nE5_1]]
    show Runs p e below _ (T24.setTop (mkF m 62 #[.val (.int p0), .val (.int (5 : Int32)), .val (.ref b5), .val (.ref y5), .val (.int (62 : Int32)), .val (.int (1 : Int32)), .val (.int (1 : Int32)), .unset] [(.int (1 : Int32))]))
    refine Runs.by (fun _ hr => XS.istore X24.here hx rfl (hb hby at_62) rfl (l' := #[.val (.int p0), .val (.int (5 : Int32)), .val (.ref b5), .val (.ref y5), .val (.int (62 : Int32)), .val (.int (1 : Int32)), .val (.int (1 : Int32)), .val (.int (1 : Int32))]) rfl hr) ?_
    show Runs p e below _ (T24.setTop (mkF m 64 #[.val (.int p0), .val (.int (5 : Int32)), .val (.ref b5), .val (.ref y5), .val (.int (62 : Int32)), .val (.int (1 : Int32)), .val (.int (1 : Int32)), .val (.int (1 : Int32))] []))
    refine Runs.by (fun _ hr => XS.iload X24.here hx rfl (hb hby at_64) rfl  hr) ?_
    show Runs p e below _ (T24.setTop (mkF m 66 #[.val (.int p0), .val (.int (5 : Int32)), .val (.ref b5), .val (.ref y5), .val (.int (62 : Int32)), .val (.int (1 : Int32)), .val (.int (1 : Int32)), .val (.int (1 : Int32))] [(.int (1 : Int32))]))
    refine Runs.by (fun _ hr => XS.iload X24.here hx rfl (hb hby at_66) rfl  hr) ?_
    show Runs p e below _ (T24.setTop (mkF m 68 #[.val (.int p0), .val (.int (5 : Int32)), .val (.ref b5), .val (.ref y5), .val (.int (62 : Int32)), .val (.int (1 : Int32)), .val (.int (1 : Int32)), .val (.int (1 : Int32))] [(.int (1 : Int32)), (.int (1 : Int32))]))
    have hc68 : (1 : Int32) = (1 : Int32) := (by decide)
    refine Runs.by (fun _ hr => XS.icmpNo X24.here hx rfl (hb hby at_68) rfl (teq hc68).2 hr) ?_
    show Runs p e below _ (T24.setTop (mkF m 71 #[.val (.int p0), .val (.int (5 : Int32)), .val (.ref b5), .val (.ref y5), .val (.int (62 : Int32)), .val (.int (1 : Int32)), .val (.int (1 : Int32)), .val (.int (1 : Int32))] []))
    refine Runs.by (fun _ hr => XS.iload X24.here hx rfl (hb hby at_71) rfl  hr) ?_
    show Runs p e below _ (T24.setTop (mkF m 73 #[.val (.int p0), .val (.int (5 : Int32)), .val (.ref b5), .val (.ref y5), .val (.int (62 : Int32)), .val (.int (1 : Int32)), .val (.int (1 : Int32)), .val (.int (1 : Int32))] [(.int (1 : Int32))]))
    refine Runs.by (fun _ hr => XS.iload X24.here hx rfl (hb hby at_73) rfl  hr) ?_
    show Runs p e below _ (T24.setTop (mkF m 75 #[.val (.int p0), .val (.int (5 : Int32)), .val (.ref b5), .val (.ref y5), .val (.int (62 : Int32)), .val (.int (1 : Int32)), .val (.int (1 : Int32)), .val (.int (1 : Int32))] [(.int (1 : Int32)), (.int (1 : Int32))]))
    have hc75 : (1 : Int32) = (1 : Int32) := (by decide)
    refine Runs.by (fun _ hr => XS.icmpNo X24.here hx rfl (hb hby at_75) rfl (teq hc75).2 hr) ?_
    show Runs p e below _ (T24.setTop (mkF m 78 #[.val (.int p0), .val (.int (5 : Int32)), .val (.ref b5), .val (.ref y5), .val (.int (62 : Int32)), .val (.int (1 : Int32)), .val (.int (1 : Int32)), .val (.int (1 : Int32))] []))
    refine Runs.by (fun _ hr => XS.iconst X24.here hx rfl (hb hby at_78) hr) ?_
    show Runs p e below _ (T24.setTop (mkF m 79 #[.val (.int p0), .val (.int (5 : Int32)), .val (.ref b5), .val (.ref y5), .val (.int (62 : Int32)), .val (.int (1 : Int32)), .val (.int (1 : Int32)), .val (.int (1 : Int32))] [(.int (1 : Int32))]))
    refine Runs.by (fun _ hr => XS.goto X24.here hx rfl (pc0 := 79) (pc' := 83) rfl (hb hby at_79) (by decide) (by decide) hr) ?_
    show Runs p e below _ (T24.setTop (mkF m 83 #[.val (.int p0), .val (.int (5 : Int32)), .val (.ref b5), .val (.ref y5), .val (.int (62 : Int32)), .val (.int (1 : Int32)), .val (.int (1 : Int32)), .val (.int (1 : Int32))] [(.int (1 : Int32))]))
    refine Runs.ret X24 hx hrt hlk (Or.inl ⟨rfl, by simp, _, rfl⟩) (by rfl) (hb hby at_83) (by decide) (by decide) ?_
    rw [eq24]
    exact ⟨rfl, N24⟩
set_option maxRecDepth 65536 in
set_option maxHeartbeats 40000000 in
theorem comes_1 {Post : Tables → Env → Array Value → State → Outcome → State → Prop} (hpost : ∀ tb e args s v u, (limb_1_1.after args s (.returned v) u = true ∧ limb_1_2.after args s (.returned v) u = true ∧ True) → FrameEnd s (.returned v) u (Jvm.fieldLocs frame_1_writes args s ++ Jvm.arrayLocs frame_1_arrays args s ++ Jvm.staticLocs frame_1_statics s) 0 0 → Post tb e args s (.returned v) u) :
    ArmFor flags0 classFile x code maxLocals ret World_1 tables_1 room_1 Calls_1 rest_1 Pre_1 Post := by
  intro l hfl _ _ p e ha hc hk s m args below hf hA hF happ hP
  obtain ⟨hcalls, hrest, hpre⟩ := hP
  obtain ⟨-, -, -, hnamed, -, -, -, hat⟩ := (Spec.applies_iff hf).mp happ
  obtain ⟨hg, hn⟩ := and_e (Cond.before_iff.mp (show (Jvm.Cond.and given_1 narrow_1).before args s = true from hpre))
  obtain ⟨g1, g2⟩ := and_e hg
  obtain ⟨g3, g4⟩ := and_e hn
  obtain ⟨g5, g6⟩ := and_e g4
  obtain ⟨g7, g8⟩ := and_e g6
  obtain ⟨g9, g10⟩ := and_e g8
  obtain ⟨g11, g12⟩ := and_e g10
  obtain ⟨g13, g14⟩ := and_e g12
  obtain ⟨g15, g16⟩ := and_e g14
  obtain ⟨g17, g18⟩ := and_e g16
  obtain ⟨g19, g20⟩ := and_e g18
  obtain ⟨g21, g22⟩ := and_e g20
  obtain ⟨g23, g24⟩ := and_e g22
  obtain ⟨g25, g26⟩ := and_e g24
  obtain ⟨g27, g28⟩ := and_e g26
  obtain ⟨g29, g30⟩ := and_e g28
  obtain ⟨g31, g32⟩ := and_e g30
  obtain ⟨g33, g34⟩ := and_e g32
  obtain ⟨g35, g36⟩ := and_e g34
  obtain ⟨g37, g38⟩ := and_e g36
  obtain ⟨g39, g40⟩ := and_e g38
  obtain ⟨g41, g42⟩ := and_e g40
  obtain ⟨g43, g44⟩ := and_e g42
  obtain ⟨g45, g46⟩ := and_e g44
  obtain ⟨g47, g48⟩ := and_e g46
  obtain ⟨g49, g50⟩ := and_e g48
  obtain ⟨g51, g52⟩ := and_e g50
  obtain ⟨g53, g54⟩ := and_e g52
  obtain ⟨g55, g56⟩ := and_e g54
  obtain ⟨g57, g58⟩ := and_e g56
  obtain ⟨g59, g60⟩ := and_e g58
  obtain ⟨g61, g62⟩ := and_e g60
  obtain ⟨g63, g64⟩ := and_e g62
  obtain ⟨g65, g66⟩ := and_e g64
  obtain ⟨g67, g68⟩ := and_e g66
  obtain ⟨g69, g70⟩ := and_e g68
  obtain ⟨g71, g72⟩ := and_e g70
  obtain ⟨g73, g74⟩ := and_e g72
  obtain ⟨g75, g76⟩ := and_e g74
  obtain ⟨g77, g78⟩ := and_e g76
  obtain ⟨g79, g80⟩ := and_e g78
  obtain ⟨g81, g82⟩ := and_e g80
  obtain ⟨g83, g84⟩ := and_e g82
  obtain ⟨g85, g86⟩ := and_e g84
  obtain ⟨g87, g88⟩ := and_e g86
  obtain ⟨g89, g90⟩ := and_e g88
  obtain ⟨w0, rfl⟩ : ∃ w0 : Value, args = #[w0] := by
    have hs : args.size = 1 := by simpa [Cond.value, given_1] using g1
    obtain ⟨L⟩ := args
    match L, hs with
    | [w0], _ => exact ⟨w0, rfl⟩
  have hw := fun d (hd : d ∈ tables_1) => atoms_spec (ws := Jvm.Cond.code x code maxLocals ret :: tables_1) hat d (List.mem_cons_of_mem _ hd)
  have hfit : Fit s := fun {y c} hc i hi => by
    obtain ⟨ha, rfl⟩ := Array.getElem?_eq_some_iff.mp hc
    have q := List.all_eq_true.mp ((Array.all_eq_true_iff_forall_mem.mp hF) _ (Array.getElem_mem ha)) i (List.mem_range.mpr hi)
    simpa [Array.getElem?_eq_getElem hi] using q
  obtain ⟨hsets, hown0⟩ := atoms_of _ (rest_1_c_eq ▸ (show rest_1_c.before _ s = true from hrest))
  have hr0 := Cond.before_iff.mp hown0
  obtain ⟨i0, ei0⟩ := is_v g2
  obtain rfl : w0 = (.int i0) := Option.some.inj ei0
  obtain ⟨b0, ev0⟩ := exa_v g3
  have E0 := exa_at ev0 g3
  have S0 := Sta.start ev0 (Or.inr ⟨hw _ (List.mem_of_getElem? (i := 6) rfl), hw _ (List.mem_of_getElem? (i := 7) rfl)⟩)
  have F0 := Fld.start ((fld_at ev0).symm.trans (own_eq_int g29))
  obtain ⟨y0, evy0⟩ := exa_v g5
  have ES0 := exa_at evy0 g5
  have FS0 := Fld.start ((fld_at ev0).symm.trans evy0)
  have FC0 := Fld.start ((fld_at evy0).symm.trans (own_eq_int g7))
  obtain ⟨v0, eva0⟩ := arr_v g9
  have FV0 := Fld.start ((fld_at evy0).symm.trans eva0)
  obtain ⟨k0, V0⟩ := own_arv (vs := [(.int (61 : Int32))]) (dv := .int (0 : Int32)) hfit eva0 g9 g11 (by decide) rfl (fun cl hc => ⟨(elem_in (own_eq_int g13) eva0 rfl hc).2, trivial⟩)
  obtain ⟨b1, ev1⟩ := exa_v g31
  have E1 := exa_at ev1 g31
  have S1 := Sta.start ev1 (Or.inr ⟨hw _ (List.mem_of_getElem? (i := 6) rfl), hw _ (List.mem_of_getElem? (i := 52) rfl)⟩)
  have F1 := Fld.start ((fld_at ev1).symm.trans (own_eq_int g33))
  obtain ⟨y1, evy1⟩ := exa_v g49
  have ES1 := exa_at evy1 g49
  have FS1 := Fld.start ((fld_at ev1).symm.trans evy1)
  have FC1 := Fld.start ((fld_at evy1).symm.trans (own_eq_int g51))
  obtain ⟨v1, eva1⟩ := arr_v g53
  have FV1 := Fld.start ((fld_at evy1).symm.trans eva1)
  obtain ⟨k1, V1⟩ := own_arv (vs := [(.int (33 : Int32)), (.int (61 : Int32))]) (dv := .int (0 : Int32)) hfit eva1 g53 g55 (by decide) rfl (fun cl hc => ⟨(elem_in (own_eq_int g57) eva1 rfl hc).2, (elem_in (own_eq_int g89) eva1 rfl hc).2, trivial⟩)
  obtain ⟨b2, ev2⟩ := exa_v g35
  have E2 := exa_at ev2 g35
  have S2 := Sta.start ev2 (Or.inr ⟨hw _ (List.mem_of_getElem? (i := 6) rfl), hw _ (List.mem_of_getElem? (i := 54) rfl)⟩)
  have F2 := Fld.start ((fld_at ev2).symm.trans (own_eq_int g47))
  obtain ⟨y2, evy2⟩ := exa_v g37
  have ES2 := exa_at evy2 g37
  have FS2 := Fld.start ((fld_at ev2).symm.trans evy2)
  have FC2 := Fld.start ((fld_at evy2).symm.trans (own_eq_int g39))
  obtain ⟨v2, eva2⟩ := arr_v g41
  have FV2 := Fld.start ((fld_at evy2).symm.trans eva2)
  obtain ⟨k2, V2⟩ := own_arv (vs := [(.int (60 : Int32))]) (dv := .int (0 : Int32)) hfit eva2 g41 g43 (by decide) rfl (fun cl hc => ⟨(elem_in (own_eq_int g45) eva2 rfl hc).2, trivial⟩)
  obtain ⟨b3, ev3⟩ := exa_v g15
  have E3 := exa_at ev3 g15
  have S3 := Sta.start ev3 (Or.inr ⟨hw _ (List.mem_of_getElem? (i := 6) rfl), hw _ (List.mem_of_getElem? (i := 50) rfl)⟩)
  have F3 := Fld.start ((fld_at ev3).symm.trans (own_eq_int g27))
  obtain ⟨y3, evy3⟩ := exa_v g17
  have ES3 := exa_at evy3 g17
  have FS3 := Fld.start ((fld_at ev3).symm.trans evy3)
  have FC3 := Fld.start ((fld_at evy3).symm.trans (own_eq_int g19))
  obtain ⟨v3, eva3⟩ := arr_v g21
  have FV3 := Fld.start ((fld_at evy3).symm.trans eva3)
  obtain ⟨k3, V3⟩ := own_arv (vs := [(.int (60 : Int32)), (.int (61 : Int32))]) (dv := .int (0 : Int32)) hfit eva3 g21 g23 (by decide) rfl (fun cl hc => ⟨(elem_in (own_eq_int g25) eva3 rfl hc).2, (elem_in (own_eq_int g87) eva3 rfl hc).2, trivial⟩)
  obtain ⟨b4, ev4⟩ := exa_v g73
  have E4 := exa_at ev4 g73
  have S4 := Sta.start ev4 (Or.inr ⟨hw _ (List.mem_of_getElem? (i := 6) rfl), hw _ (List.mem_of_getElem? (i := 59) rfl)⟩)
  have F4 := Fld.start ((fld_at ev4).symm.trans (own_eq_int g85))
  obtain ⟨y4, evy4⟩ := exa_v g75
  have ES4 := exa_at evy4 g75
  have FS4 := Fld.start ((fld_at ev4).symm.trans evy4)
  have FC4 := Fld.start ((fld_at evy4).symm.trans (own_eq_int g77))
  obtain ⟨v4, eva4⟩ := arr_v g79
  have FV4 := Fld.start ((fld_at evy4).symm.trans eva4)
  obtain ⟨k4, V4⟩ := own_arv (vs := [(.int (62 : Int32))]) (dv := .int (0 : Int32)) hfit eva4 g79 g81 (by decide) rfl (fun cl hc => ⟨(elem_in (own_eq_int g83) eva4 rfl hc).2, trivial⟩)
  obtain ⟨b5, ev5⟩ := exa_v g59
  have E5 := exa_at ev5 g59
  have S5 := Sta.start ev5 (Or.inr ⟨hw _ (List.mem_of_getElem? (i := 6) rfl), hw _ (List.mem_of_getElem? (i := 57) rfl)⟩)
  have F5 := Fld.start ((fld_at ev5).symm.trans (own_eq_int g71))
  obtain ⟨y5, evy5⟩ := exa_v g61
  have ES5 := exa_at evy5 g61
  have FS5 := Fld.start ((fld_at ev5).symm.trans evy5)
  have FC5 := Fld.start ((fld_at evy5).symm.trans (own_eq_int g63))
  obtain ⟨v5, eva5⟩ := arr_v g65
  have FV5 := Fld.start ((fld_at evy5).symm.trans eva5)
  obtain ⟨k5, V5⟩ := own_arv (vs := [(.int (62 : Int32)), (.int (61 : Int32))]) (dv := .int (0 : Int32)) hfit eva5 g65 g67 (by decide) rfl (fun cl hc => ⟨(elem_in (own_eq_int g69) eva5 rfl hc).2, (elem_in (own_eq_int g90) eva5 rfl hc).2, trivial⟩)
  have n5 := not_v (Cond.before_iff.mp (hsets _ (List.mem_of_getElem? (i := 2) rfl)))
  obtain ⟨gC, eC⟩ := is_v (Cond.before_iff.mp (hsets _ (List.mem_of_getElem? (i := 1) rfl)))
  have SC : Sta s s.heap "java/lang/String" "COMPACT_STRINGS" "Z" (.int gC) := Sta.start eC (Or.inl (hsets _ (List.mem_of_getElem? (i := 0) rfl)))
  have cC : ¬ (gC = (0 : Int32)) := gotF (Cond.eq_ints eC (Term.int_eval (0))) n5
  obtain ⟨vG, eG, rG⟩ := isR_v (Cond.before_iff.mp (hsets _ (List.mem_of_getElem? (i := 8) rfl)))
  have SG : Sta s s.heap "jdk/internal/util/Preconditions" "SIOOBE_FORMATTER" "Ljava/util/function/BiFunction;" vG := Sta.start eG (Or.inl (hsets _ (List.mem_of_getElem? (i := 7) rfl)))
  obtain ⟨n, o, h1, h2, h3, _, L, rfl, ⟨rfl, N⟩, hq⟩ := rm0 l s _ hw tables_1 i0 b0 b1 b2 b3 b4 b5 y0 y1 y2 y3 y4 y5 v0 v1 v2 v3 v4 v5 k0 k1 k2 k3 k4 k5 gC vG s.heap s.heap.size (Nat.le_refl _) S0 S1 S2 S3 S4 S5 E0 E1 E2 E3 E4 E5 (F1.ne F0 (by simp)) (F2.ne F0 (by simp)) (F3.ne F0 (by simp)) (F4.ne F0 (by simp)) (F5.ne F0 (by simp)) (F2.ne F1 (by simp)) (F3.ne F1 (by simp)) (F4.ne F1 (by simp)) (F5.ne F1 (by simp)) FS0 ES0 FC0 FV0 V0 FS1 ES1 FC1 FV1 V1 FS2 ES2 FC2 FV2 V2 FS3 ES3 FC3 FV3 V3 FS4 ES4 FC4 FV4 V4 FS5 ES5 FC5 FV5 V5 SC cC SG rG  p e ha hc hk s m _ below hf ((Spec.applies_iff_loose hf).mp happ).1 ⟨rfl, State.Warmed39.refl s, rfl⟩ trivial
  refine ⟨n, _, h1, h2, h3, hpost _ _ _ _ _ _ ⟨Cond.after_iff.mpr rfl, Cond.after_iff.mpr (eq_i res_at (Term.int_eval (1)) rfl), trivial⟩ ⟨hq.1, hq.2.1, (hq.2.2.sift fun y hy => Or.inr (N y hy)).mono (by decide) (by decide)⟩⟩
theorem main_1_1 : Claimed_1_1 := comes_1 fun _ _ _ _ _ _ h hF => ⟨h.1, hF⟩
theorem main_1_2 : Claimed_1_2 := comes_1 fun _ _ _ _ _ _ h hF => ⟨h.2.1, hF⟩
end Jvm.Pilot.@@N@@
namespace Jvm.Pilot.@@N@@
open Jvm Jvm.ClassFile Sem Op Lib Jvm.Free Jvm.Stand Jvm.Pilot.@@N@@.Jvm.D
/-! MADE BY PROGRAM (witnessworld.py) out of the Statement's table words and the real class files: 18 classes; the members and pool entries that the words name. The judged class is class 1, her method 2. -/
namespace start1
open Jvm.ClassFile
def u (s : String) : CpInfo := .utf8 (stringToUtf16 s)
/-- a pool by its gaps: so many unusable entries, then the entry; so many at the end -/
def gap : Nat → List CpInfo → List CpInfo
  | 0, r => r
  | n + 1, r => .unusable :: gap n r
def poolList (es : List (Nat × CpInfo)) (last : Nat) : List CpInfo := es.foldr (fun e r => gap e.1 (e.2 :: r)) (gap last [])
def pool (es : List (Nat × CpInfo)) (last : Nat) : Array CpInfo := ⟨poolList es last⟩
def fileOf (pool : Array CpInfo) (this : Nat) (attrs : Array Attribute := #[]) (ms : Array MethodInfo := #[]) (fl : Nat := 33) (sup : Nat := 0) (ifs : Array Nat := #[]) (fds : Array FieldInfo := #[]) : ClassFile where
  minorVersion := 0
  majorVersion := 65
  constantPool := pool
  accessFlags := fl
  thisClass := this
  superClass := sup
  interfaces := ifs
  fields := fds
  methods := ms
  attributes := attrs
def plain (name : String) (sup : Option ClassId) : Class where
  name := name
  kind := .ordinary
  loader := none
  accessFlags := 33
  super := sup
  interfaces := #[]
  cf := none
  fields := #[]
  methods := #[]
  instanceTypes := #[]
  staticTypes := #[]
  resolved := #[]
  callSites := []
  init := .initialized
  statics := none
  mirror := none

def pool0 : Array CpInfo := pool [(5, u "<init>"), (0, u "()V"), (1, .class_ 10), (1, u "java/lang/Object")] 113

def k0m0 : Method := { name := "<init>", desc := "()V", sig := { parameters := [], returnType := none }, accessFlags := 1, code := none }
/-- java/lang/Object -/
def k0 : Class := { plain "java/lang/Object" none with
  accessFlags := 33
  interfaces := #[]
  cf := some (fileOf pool0 8 #[] #[{ accessFlags := 1, nameIndex := 5, descriptorIndex := 6, attributes := #[] }] 33 0 #[] #[])
  fields := #[]
  methods := #[k0m0]
  instanceTypes := #[]
  staticTypes := #[]
  resolved := Array.replicate 124 none
  statics := none }

def pool1 : Array CpInfo := pool [(2, .class_ 4), (1, u "java/lang/Object"), (0, u "<init>"), (0, u "()V"), (0, .fieldref 8 9), (0, .class_ 10), (0, .nameAndType 11 12), (0, u "com/example/tollgate/tollgate/policy/Condition$Comparator"), (0, u "EQUAL"), (0, u "Lcom/example/tollgate/tollgate/policy/Condition$Comparator;"), (0, .fieldref 8 14), (0, .nameAndType 15 12), (0, u "NOT_EQUAL"), (0, .fieldref 8 17), (0, .nameAndType 18 12), (0, u "LESS"), (0, .fieldref 8 20), (0, .nameAndType 21 12), (0, u "LESS_OR_EQUAL"), (0, .fieldref 8 23), (0, .nameAndType 24 12), (0, u "GREATER"), (0, .fieldref 8 26), (0, .nameAndType 27 12), (0, u "GREATER_OR_EQUAL"), (0, .integer 2147483647), (0, .methodref 30 31), (0, .class_ 32), (0, .nameAndType 33 34), (0, u "com/example/tollgate/tollgate/policy/ComparatorOrdersPinLaw"), (0, u "pick"), (0, u "(I)Lcom/example/tollgate/tollgate/policy/Condition$Comparator;"), (0, .methodref 8 36), (0, .nameAndType 37 38), (0, u "toString"), (0, u "()Ljava/lang/String;"), (0, .methodref 40 41), (0, .class_ 42), (0, .nameAndType 43 44), (0, u "java/lang/String"), (0, u "charAt"), (0, u "(I)C"), (0, .methodref 8 46), (0, .nameAndType 47 48), (0, u "orders"), (0, u "()Z"), (3, u "law"), (0, u "(I)Z")] 6

def k1m0 : Method := { name := "<init>", desc := "()V", sig := { parameters := [], returnType := none }, accessFlags := 2, code := none }
def k1c1 : Code := { maxStack := 2, maxLocals := 1, code := method_2_code, exceptionTable := #[], attributes := #[] }
def k1m1 : Method := { name := "pick", desc := "(I)Lcom/example/tollgate/tollgate/policy/Condition$Comparator;", sig := { parameters := [.int], returnType := some (.object "com/example/tollgate/tollgate/policy/Condition$Comparator") }, accessFlags := 10, code := some k1c1 }
def k1c2 : Code := { maxStack := 2, maxLocals := 8, code := code, exceptionTable := #[], attributes := #[] }
def k1m2 : Method := { name := "law", desc := "(I)Z", sig := { parameters := [.int], returnType := some .boolean }, accessFlags := 9, code := some k1c2 }
/-- com/example/tollgate/tollgate/policy/ComparatorOrdersPinLaw -/
def k1 : Class := { plain "com/example/tollgate/tollgate/policy/ComparatorOrdersPinLaw" (some 0) with
  accessFlags := 49
  interfaces := #[]
  cf := some (fileOf pool1 30 #[] #[{ accessFlags := 2, nameIndex := 5, descriptorIndex := 6, attributes := #[] }, { accessFlags := 10, nameIndex := 33, descriptorIndex := 34, attributes := #[] }, { accessFlags := 9, nameIndex := 52, descriptorIndex := 53, attributes := #[] }] 49 2 #[] #[])
  fields := #[]
  methods := #[k1m0, k1m1, k1m2]
  instanceTypes := #[]
  staticTypes := #[]
  resolved := Array.replicate 60 none
  statics := none }

def pool2 : Array CpInfo := pool [(1, .class_ 2), (0, u "java/lang/constant/Constable"), (0, .class_ 4), (0, u "java/lang/Object")] 6

/-- java/lang/constant/Constable -/
def k2 : Class := { plain "java/lang/constant/Constable" (some 0) with
  accessFlags := 1537
  interfaces := #[]
  cf := some (fileOf pool2 1 #[] #[] 1537 3 #[] #[])
  fields := #[]
  methods := #[]
  instanceTypes := #[]
  staticTypes := #[]
  resolved := Array.replicate 11 none
  statics := none }

def pool3 : Array CpInfo := pool [(1, .class_ 2), (0, u "java/lang/Comparable"), (0, .class_ 4), (0, u "java/lang/Object")] 7

/-- java/lang/Comparable -/
def k3 : Class := { plain "java/lang/Comparable" (some 0) with
  accessFlags := 1537
  interfaces := #[]
  cf := some (fileOf pool3 1 #[] #[] 1537 3 #[] #[])
  fields := #[]
  methods := #[]
  instanceTypes := #[]
  staticTypes := #[]
  resolved := Array.replicate 12 none
  statics := none }

def pool4 : Array CpInfo := pool [(1, .class_ 2), (0, u "java/io/Serializable"), (0, .class_ 4), (0, u "java/lang/Object")] 2

/-- java/io/Serializable -/
def k4 : Class := { plain "java/io/Serializable" (some 0) with
  accessFlags := 1537
  interfaces := #[]
  cf := some (fileOf pool4 1 #[] #[] 1537 3 #[] #[])
  fields := #[]
  methods := #[]
  instanceTypes := #[]
  staticTypes := #[]
  resolved := Array.replicate 7 none
  statics := none }

def pool5 : Array CpInfo := pool [(2, .class_ 4), (1, u "java/lang/Enum"), (0, u "name"), (0, u "Ljava/lang/String;"), (2, u "ordinal"), (0, u "I"), (1, .class_ 14), (1, u "java/lang/Object"), (4, u "hash"), (86, .class_ 108), (1, u "java/lang/Enum$EnumDesc"), (2, .class_ 112), (0, u "java/lang/constant/Constable"), (0, .class_ 114), (0, u "java/lang/Comparable"), (0, .class_ 116), (0, u "java/io/Serializable")] 87

/-- java/lang/Enum -/
def k5 : Class := { plain "java/lang/Enum" (some 0) with
  accessFlags := 1057
  interfaces := #[2, 3, 4]
  cf := some (fileOf pool5 2 #[.nestMembers #[106]] #[] 1057 12 #[111, 113, 115] #[{ accessFlags := 18, nameIndex := 5, descriptorIndex := 6, attributes := #[] }, { accessFlags := 18, nameIndex := 9, descriptorIndex := 10, attributes := #[] }, { accessFlags := 2, nameIndex := 19, descriptorIndex := 10, attributes := #[] }])
  fields := #[{ name := "name", type := (.object "java/lang/String"), accessFlags := 18, slot := 0, constantValue := 0 }, { name := "ordinal", type := .int, accessFlags := 18, slot := 1, constantValue := 0 }, { name := "hash", type := .int, accessFlags := 2, slot := 2, constantValue := 0 }]
  methods := #[]
  instanceTypes := #[(.object "java/lang/String"), .int, .int]
  staticTypes := #[]
  resolved := Array.replicate 204 none
  statics := none }

def pool6 : Array CpInfo := pool [(1, .class_ 2), (0, u "com/example/tollgate/tollgate/policy/Condition$Comparator"), (0, .fieldref 1 4), (0, .nameAndType 5 6), (0, u "EQUAL"), (0, u "Lcom/example/tollgate/tollgate/policy/Condition$Comparator;"), (0, .fieldref 1 8), (0, .nameAndType 9 6), (0, u "NOT_EQUAL"), (2, u "LESS"), (2, u "LESS_OR_EQUAL"), (2, u "GREATER"), (2, u "GREATER_OR_EQUAL"), (2, u "$VALUES"), (0, u "[Lcom/example/tollgate/tollgate/policy/Condition$Comparator;"), (6, .class_ 34), (1, u "java/lang/Enum"), (6, .fieldref 1 42), (0, .nameAndType 43 44), (0, u "symbol"), (0, u "Ljava/lang/String;"), (41, u "orders"), (0, u "()Z"), (1, u "toString"), (0, u "()Ljava/lang/String;"), (6, .class_ 98), (0, u "com/example/tollgate/tollgate/policy/Condition")] 2

def k6c0 : Code := { maxStack := 2, maxLocals := 1, code := prog_64_method_5_code, exceptionTable := #[], attributes := #[] }
def k6m0 : Method := { name := "orders", desc := "()Z", sig := { parameters := [], returnType := some .boolean }, accessFlags := 0, code := some k6c0 }
def k6c1 : Code := { maxStack := 1, maxLocals := 1, code := prog_64_method_6_code, exceptionTable := #[], attributes := #[] }
def k6m1 : Method := { name := "toString", desc := "()Ljava/lang/String;", sig := { parameters := [], returnType := some (.object "java/lang/String") }, accessFlags := 1, code := some k6c1 }
/-- com/example/tollgate/tollgate/policy/Condition$Comparator -/
def k6 : Class := { plain "com/example/tollgate/tollgate/policy/Condition$Comparator" (some 5) with
  accessFlags := 16433
  interfaces := #[]
  cf := some (fileOf pool6 1 #[.nestHost 97] #[{ accessFlags := 0, nameIndex := 86, descriptorIndex := 87, attributes := #[] }, { accessFlags := 1, nameIndex := 89, descriptorIndex := 90, attributes := #[] }] 16433 32 #[] #[{ accessFlags := 16409, nameIndex := 5, descriptorIndex := 6, attributes := #[] }, { accessFlags := 16409, nameIndex := 9, descriptorIndex := 6, attributes := #[] }, { accessFlags := 16409, nameIndex := 12, descriptorIndex := 6, attributes := #[] }, { accessFlags := 16409, nameIndex := 15, descriptorIndex := 6, attributes := #[] }, { accessFlags := 16409, nameIndex := 18, descriptorIndex := 6, attributes := #[] }, { accessFlags := 16409, nameIndex := 21, descriptorIndex := 6, attributes := #[] }, { accessFlags := 18, nameIndex := 43, descriptorIndex := 44, attributes := #[] }, { accessFlags := 4122, nameIndex := 24, descriptorIndex := 25, attributes := #[] }])
  fields := #[{ name := "EQUAL", type := (.object "com/example/tollgate/tollgate/policy/Condition$Comparator"), accessFlags := 16409, slot := 0, constantValue := 0 }, { name := "NOT_EQUAL", type := (.object "com/example/tollgate/tollgate/policy/Condition$Comparator"), accessFlags := 16409, slot := 1, constantValue := 0 }, { name := "LESS", type := (.object "com/example/tollgate/tollgate/policy/Condition$Comparator"), accessFlags := 16409, slot := 2, constantValue := 0 }, { name := "LESS_OR_EQUAL", type := (.object "com/example/tollgate/tollgate/policy/Condition$Comparator"), accessFlags := 16409, slot := 3, constantValue := 0 }, { name := "GREATER", type := (.object "com/example/tollgate/tollgate/policy/Condition$Comparator"), accessFlags := 16409, slot := 4, constantValue := 0 }, { name := "GREATER_OR_EQUAL", type := (.object "com/example/tollgate/tollgate/policy/Condition$Comparator"), accessFlags := 16409, slot := 5, constantValue := 0 }, { name := "symbol", type := (.object "java/lang/String"), accessFlags := 18, slot := 3, constantValue := 0 }, { name := "$VALUES", type := (.array (.object "com/example/tollgate/tollgate/policy/Condition$Comparator")), accessFlags := 4122, slot := 6, constantValue := 0 }]
  methods := #[k6m0, k6m1]
  instanceTypes := #[(.object "java/lang/String"), .int, .int, (.object "java/lang/String")]
  staticTypes := #[(.object "com/example/tollgate/tollgate/policy/Condition$Comparator"), (.object "com/example/tollgate/tollgate/policy/Condition$Comparator"), (.object "com/example/tollgate/tollgate/policy/Condition$Comparator"), (.object "com/example/tollgate/tollgate/policy/Condition$Comparator"), (.object "com/example/tollgate/tollgate/policy/Condition$Comparator"), (.object "com/example/tollgate/tollgate/policy/Condition$Comparator"), (.array (.object "com/example/tollgate/tollgate/policy/Condition$Comparator"))]
  resolved := Array.replicate 101 none
  statics := some 0 }

def pool7 : Array CpInfo := pool [(2, .class_ 4), (1, u "java/lang/CharSequence"), (42, .class_ 48), (0, u "java/lang/CharSequence$1CodePointIterator"), (10, .class_ 60), (0, u "java/lang/CharSequence$1CharIterator"), (5, .class_ 67), (0, u "java/lang/Object")] 63

/-- java/lang/CharSequence -/
def k7 : Class := { plain "java/lang/CharSequence" (some 0) with
  accessFlags := 1537
  interfaces := #[]
  cf := some (fileOf pool7 2 #[.nestMembers #[47, 59]] #[] 1537 66 #[] #[])
  fields := #[]
  methods := #[]
  instanceTypes := #[]
  staticTypes := #[]
  resolved := Array.replicate 131 none
  statics := none }

def pool8 : Array CpInfo := pool [(1, .class_ 2), (0, u "java/lang/constant/ConstantDesc"), (0, .class_ 4), (0, u "java/lang/Object")] 32

/-- java/lang/constant/ConstantDesc -/
def k8 : Class := { plain "java/lang/constant/ConstantDesc" (some 0) with
  accessFlags := 1537
  interfaces := #[]
  cf := some (fileOf pool8 1 #[] #[] 1537 3 #[] #[])
  fields := #[]
  methods := #[]
  instanceTypes := #[]
  staticTypes := #[]
  resolved := Array.replicate 37 none
  statics := none }

def pool9 : Array CpInfo := pool [(2, .class_ 4), (1, u "java/lang/Object"), (0, u "<init>"), (0, u "()V"), (2, .fieldref 10 11), (0, .class_ 12), (0, .nameAndType 13 14), (0, u "java/lang/String"), (0, u "value"), (0, u "[B"), (0, .fieldref 10 16), (0, .nameAndType 17 18), (0, u "coder"), (0, u "B"), (2, u "hash"), (0, u "I"), (2, u "hashIsZero"), (0, u "Z"), (11, .fieldref 10 39), (0, .nameAndType 40 26), (0, u "COMPACT_STRINGS"), (66, .class_ 109), (1, u "java/lang/StringLatin1"), (32, u "()Z"), (220, u "([BI)C"), (27, u "(II)V"), (35, u "(I)C"), (64, .methodref 10 493), (0, .nameAndType 494 142), (0, u "isLatin1"), (0, .methodref 107 496), (0, .nameAndType 497 363), (0, u "charAt"), (3, u "checkIndex"), (73, .class_ 576), (0, u "java/lang/CharSequence"), (22, u "CASE_INSENSITIVE_ORDER"), (0, u "Ljava/util/Comparator;"), (452, .fieldref 1054 1055), (0, .class_ 1056), (0, .nameAndType 1057 1058), (0, u "jdk/internal/util/Preconditions"), (0, u "SIOOBE_FORMATTER"), (0, u "Ljava/util/function/BiFunction;"), (0, .methodref 1054 1060), (0, .nameAndType 501 1061), (0, u "(IILjava/util/function/BiFunction;)I"), (39, u "serialPersistentFields"), (0, u "[Ljava/io/ObjectStreamField;"), (0, .class_ 1104), (0, u "java/lang/String$CaseInsensitiveComparator"), (1, .class_ 1107), (0, u "java/io/Serializable"), (0, .class_ 1109), (0, u "java/lang/Comparable"), (0, .class_ 1111), (0, u "java/lang/constant/Constable"), (0, .class_ 1113), (0, u "java/lang/constant/ConstantDesc"), (2, u "serialVersionUID"), (0, u "J"), (3, u "REPL"), (0, u "C"), (2, u "LATIN1"), (1, u "UTF16")] 323

def k9m0 : Method := { name := "<init>", desc := "()V", sig := { parameters := [], returnType := none }, accessFlags := 1, code := none }
def k9c1 : Code := { maxStack := 2, maxLocals := 2, code := jdk_42_method_56_code, exceptionTable := #[], attributes := #[] }
def k9m1 : Method := { name := "charAt", desc := "(I)C", sig := { parameters := [.int], returnType := some .char }, accessFlags := 1, code := some k9c1 }
def k9c2 : Code := { maxStack := 1, maxLocals := 1, code := jdk_42_method_154_code, exceptionTable := #[], attributes := #[] }
def k9m2 : Method := { name := "isLatin1", desc := "()Z", sig := { parameters := [], returnType := some .boolean }, accessFlags := 0, code := some k9c2 }
def k9c3 : Code := { maxStack := 3, maxLocals := 2, code := jdk_42_method_155_code, exceptionTable := #[], attributes := #[] }
def k9m3 : Method := { name := "checkIndex", desc := "(II)V", sig := { parameters := [.int, .int], returnType := none }, accessFlags := 8, code := some k9c3 }
/-- java/lang/String -/
def k9 : Class := { plain "java/lang/String" (some 0) with
  accessFlags := 49
  interfaces := #[4, 3, 7, 2, 8]
  cf := some (fileOf pool9 10 #[.nestMembers #[1103]] #[{ accessFlags := 1, nameIndex := 5, descriptorIndex := 6, attributes := #[] }, { accessFlags := 1, nameIndex := 497, descriptorIndex := 427, attributes := #[] }, { accessFlags := 0, nameIndex := 494, descriptorIndex := 142, attributes := #[] }, { accessFlags := 8, nameIndex := 501, descriptorIndex := 391, attributes := #[] }] 49 2 #[1106, 1108, 575, 1110, 1112] #[{ accessFlags := 18, nameIndex := 13, descriptorIndex := 14, attributes := #[] }, { accessFlags := 18, nameIndex := 17, descriptorIndex := 18, attributes := #[] }, { accessFlags := 2, nameIndex := 21, descriptorIndex := 22, attributes := #[] }, { accessFlags := 2, nameIndex := 25, descriptorIndex := 26, attributes := #[] }, { accessFlags := 26, nameIndex := 1116, descriptorIndex := 1117, attributes := #[] }, { accessFlags := 24, nameIndex := 40, descriptorIndex := 26, attributes := #[] }, { accessFlags := 26, nameIndex := 1101, descriptorIndex := 1102, attributes := #[] }, { accessFlags := 26, nameIndex := 1121, descriptorIndex := 1122, attributes := #[] }, { accessFlags := 25, nameIndex := 599, descriptorIndex := 600, attributes := #[] }, { accessFlags := 24, nameIndex := 1125, descriptorIndex := 18, attributes := #[] }, { accessFlags := 24, nameIndex := 1127, descriptorIndex := 18, attributes := #[] }])
  fields := #[{ name := "value", type := (.array .byte), accessFlags := 18, slot := 0, constantValue := 0 }, { name := "coder", type := .byte, accessFlags := 18, slot := 1, constantValue := 0 }, { name := "hash", type := .int, accessFlags := 2, slot := 2, constantValue := 0 }, { name := "hashIsZero", type := .boolean, accessFlags := 2, slot := 3, constantValue := 0 }, { name := "serialVersionUID", type := .long, accessFlags := 26, slot := 0, constantValue := 0 }, { name := "COMPACT_STRINGS", type := .boolean, accessFlags := 24, slot := 1, constantValue := 0 }, { name := "serialPersistentFields", type := (.array (.object "java/io/ObjectStreamField")), accessFlags := 26, slot := 2, constantValue := 0 }, { name := "REPL", type := .char, accessFlags := 26, slot := 3, constantValue := 0 }, { name := "CASE_INSENSITIVE_ORDER", type := (.object "java/util/Comparator"), accessFlags := 25, slot := 4, constantValue := 0 }, { name := "LATIN1", type := .byte, accessFlags := 24, slot := 5, constantValue := 0 }, { name := "UTF16", type := .byte, accessFlags := 24, slot := 6, constantValue := 0 }]
  methods := #[k9m0, k9m1, k9m2, k9m3]
  instanceTypes := #[(.array .byte), .byte, .int, .boolean]
  staticTypes := #[.long, .boolean, (.array (.object "java/io/ObjectStreamField")), .char, (.object "java/util/Comparator"), .byte, .byte]
  resolved := Array.replicate 1451 none
  statics := some 1 }

def pool10 : Array CpInfo := pool [(1, .class_ 2), (0, u "java/lang/String"), (1, .class_ 6), (1, u "java/lang/Object"), (0, u "<init>"), (0, u "()V"), (0, .methodref 1 10), (0, .nameAndType 11 12), (0, u "checkIndex"), (0, u "(II)V"), (1, .class_ 16), (1, u "java/lang/StringLatin1"), (36, u "([BI)C"), (67, u "$assertionsDisabled"), (0, u "Z"), (98, .class_ 223), (1, u "java/lang/StringLatin1$LinesSpliterator"), (28, u "charAt"), (137, .class_ 391), (0, u "java/lang/StringLatin1$CharsSpliterator")] 3

def k10m0 : Method := { name := "<init>", desc := "()V", sig := { parameters := [], returnType := none }, accessFlags := 0, code := none }
def k10c1 : Code := { maxStack := 2, maxLocals := 2, code := jdk_43_method_2_code, exceptionTable := #[], attributes := #[] }
def k10m1 : Method := { name := "charAt", desc := "([BI)C", sig := { parameters := [(.array .byte), .int], returnType := some .char }, accessFlags := 9, code := some k10c1 }
/-- java/lang/StringLatin1 -/
def k10 : Class := { plain "java/lang/StringLatin1" (some 0) with
  accessFlags := 48
  interfaces := #[]
  cf := some (fileOf pool10 14 #[.nestMembers #[390, 221]] #[{ accessFlags := 0, nameIndex := 7, descriptorIndex := 8, attributes := #[] }, { accessFlags := 9, nameIndex := 252, descriptorIndex := 53, attributes := #[] }] 48 4 #[] #[{ accessFlags := 4120, nameIndex := 121, descriptorIndex := 122, attributes := #[] }])
  fields := #[{ name := "$assertionsDisabled", type := .boolean, accessFlags := 4120, slot := 0, constantValue := 0 }]
  methods := #[k10m0, k10m1]
  instanceTypes := #[]
  staticTypes := #[.boolean]
  resolved := Array.replicate 395 none
  statics := none }

def pool11 : Array CpInfo := pool [(2, .class_ 4), (1, u "java/lang/Object"), (0, u "<init>"), (0, u "()V"), (17, .class_ 26), (1, u "jdk/internal/util/Preconditions"), (6, u "checkIndex"), (21, .class_ 56), (0, u "jdk/internal/util/Preconditions$4"), (57, .class_ 115), (0, u "jdk/internal/util/Preconditions$1"), (7, u "SIOOBE_FORMATTER"), (0, u "Ljava/util/function/BiFunction;"), (0, .class_ 126), (0, u "jdk/internal/util/Preconditions$2"), (3, u "AIOOBE_FORMATTER"), (0, .class_ 132), (0, u "jdk/internal/util/Preconditions$3"), (3, u "IOOBE_FORMATTER"), (41, u "(IILjava/util/function/BiFunction;)I")] 15

def k11m0 : Method := { name := "<init>", desc := "()V", sig := { parameters := [], returnType := none }, accessFlags := 1, code := none }
def k11c1 : Code := { maxStack := 3, maxLocals := 3, code := jdk_41_method_11_code, exceptionTable := #[], attributes := #[] }
def k11m1 : Method := { name := "checkIndex", desc := "(IILjava/util/function/BiFunction;)I", sig := { parameters := [.int, .int, (.object "java/util/function/BiFunction")], returnType := some .int }, accessFlags := 9, code := some k11c1 }
/-- jdk/internal/util/Preconditions -/
def k11 : Class := { plain "jdk/internal/util/Preconditions" (some 0) with
  accessFlags := 33
  interfaces := #[]
  cf := some (fileOf pool11 24 #[.nestMembers #[55, 131, 125, 114]] #[{ accessFlags := 1, nameIndex := 5, descriptorIndex := 6, attributes := #[] }, { accessFlags := 9, nameIndex := 33, descriptorIndex := 178, attributes := #[] }] 33 2 #[] #[{ accessFlags := 25, nameIndex := 123, descriptorIndex := 124, attributes := #[] }, { accessFlags := 25, nameIndex := 130, descriptorIndex := 124, attributes := #[] }, { accessFlags := 25, nameIndex := 136, descriptorIndex := 124, attributes := #[] }])
  fields := #[{ name := "SIOOBE_FORMATTER", type := (.object "java/util/function/BiFunction"), accessFlags := 25, slot := 0, constantValue := 0 }, { name := "AIOOBE_FORMATTER", type := (.object "java/util/function/BiFunction"), accessFlags := 25, slot := 1, constantValue := 0 }, { name := "IOOBE_FORMATTER", type := (.object "java/util/function/BiFunction"), accessFlags := 25, slot := 2, constantValue := 0 }]
  methods := #[k11m0, k11m1]
  instanceTypes := #[]
  staticTypes := #[(.object "java/util/function/BiFunction"), (.object "java/util/function/BiFunction"), (.object "java/util/function/BiFunction")]
  resolved := Array.replicate 194 none
  statics := some 2 }

def pool12 : Array CpInfo := pool [(9, u "<init>"), (6, .class_ 18), (1, u "java/lang/Object"), (0, u "()V"), (1, .class_ 23), (1, u "jdk/internal/util/ArraysSupport"), (0, u "LOG2_ARRAY_LONG_INDEX_SCALE"), (0, u "I"), (2, u "U"), (0, u "Ljdk/internal/misc/Unsafe;"), (8, u "BIG_ENDIAN"), (0, u "Z"), (8, u "LOG2_BYTE_BIT_SIZE"), (4, u "LOG2_ARRAY_INT_INDEX_SCALE"), (54, u "JLA"), (0, u "Ljdk/internal/access/JavaLangAccess;"), (11, u "LOG2_ARRAY_BOOLEAN_INDEX_SCALE"), (9, u "LOG2_ARRAY_BYTE_INDEX_SCALE"), (5, u "LOG2_ARRAY_CHAR_INDEX_SCALE"), (5, u "LOG2_ARRAY_SHORT_INDEX_SCALE"), (18, u "LOG2_ARRAY_FLOAT_INDEX_SCALE"), (24, u "LOG2_ARRAY_DOUBLE_INDEX_SCALE"), (89, u "T_BOOLEAN"), (2, u "T_CHAR"), (1, u "T_FLOAT"), (1, u "T_DOUBLE"), (1, u "T_BYTE"), (1, u "T_SHORT"), (1, u "T_INT"), (1, u "T_LONG"), (1, u "SOFT_MAX_ARRAY_LENGTH")] 83

def k12m0 : Method := { name := "<init>", desc := "()V", sig := { parameters := [], returnType := none }, accessFlags := 2, code := none }
/-- jdk/internal/util/ArraysSupport -/
def k12 : Class := { plain "jdk/internal/util/ArraysSupport" (some 0) with
  accessFlags := 33
  interfaces := #[]
  cf := some (fileOf pool12 21 #[] #[{ accessFlags := 2, nameIndex := 9, descriptorIndex := 19, attributes := #[] }] 33 16 #[] #[{ accessFlags := 24, nameIndex := 28, descriptorIndex := 29, attributes := #[] }, { accessFlags := 26, nameIndex := 38, descriptorIndex := 39, attributes := #[] }, { accessFlags := 25, nameIndex := 121, descriptorIndex := 25, attributes := #[] }, { accessFlags := 25, nameIndex := 131, descriptorIndex := 25, attributes := #[] }, { accessFlags := 25, nameIndex := 137, descriptorIndex := 25, attributes := #[] }, { accessFlags := 25, nameIndex := 143, descriptorIndex := 25, attributes := #[] }, { accessFlags := 25, nameIndex := 53, descriptorIndex := 25, attributes := #[] }, { accessFlags := 25, nameIndex := 24, descriptorIndex := 25, attributes := #[] }, { accessFlags := 25, nameIndex := 162, descriptorIndex := 25, attributes := #[] }, { accessFlags := 25, nameIndex := 187, descriptorIndex := 25, attributes := #[] }, { accessFlags := 26, nameIndex := 48, descriptorIndex := 25, attributes := #[] }, { accessFlags := 25, nameIndex := 277, descriptorIndex := 25, attributes := #[] }, { accessFlags := 25, nameIndex := 280, descriptorIndex := 25, attributes := #[] }, { accessFlags := 25, nameIndex := 282, descriptorIndex := 25, attributes := #[] }, { accessFlags := 25, nameIndex := 284, descriptorIndex := 25, attributes := #[] }, { accessFlags := 25, nameIndex := 286, descriptorIndex := 25, attributes := #[] }, { accessFlags := 25, nameIndex := 288, descriptorIndex := 25, attributes := #[] }, { accessFlags := 25, nameIndex := 290, descriptorIndex := 25, attributes := #[] }, { accessFlags := 25, nameIndex := 292, descriptorIndex := 25, attributes := #[] }, { accessFlags := 26, nameIndex := 108, descriptorIndex := 109, attributes := #[] }, { accessFlags := 25, nameIndex := 294, descriptorIndex := 25, attributes := #[] }])
  fields := #[{ name := "U", type := (.object "jdk/internal/misc/Unsafe"), accessFlags := 24, slot := 0, constantValue := 0 }, { name := "BIG_ENDIAN", type := .boolean, accessFlags := 26, slot := 1, constantValue := 0 }, { name := "LOG2_ARRAY_BOOLEAN_INDEX_SCALE", type := .int, accessFlags := 25, slot := 2, constantValue := 0 }, { name := "LOG2_ARRAY_BYTE_INDEX_SCALE", type := .int, accessFlags := 25, slot := 3, constantValue := 0 }, { name := "LOG2_ARRAY_CHAR_INDEX_SCALE", type := .int, accessFlags := 25, slot := 4, constantValue := 0 }, { name := "LOG2_ARRAY_SHORT_INDEX_SCALE", type := .int, accessFlags := 25, slot := 5, constantValue := 0 }, { name := "LOG2_ARRAY_INT_INDEX_SCALE", type := .int, accessFlags := 25, slot := 6, constantValue := 0 }, { name := "LOG2_ARRAY_LONG_INDEX_SCALE", type := .int, accessFlags := 25, slot := 7, constantValue := 0 }, { name := "LOG2_ARRAY_FLOAT_INDEX_SCALE", type := .int, accessFlags := 25, slot := 8, constantValue := 0 }, { name := "LOG2_ARRAY_DOUBLE_INDEX_SCALE", type := .int, accessFlags := 25, slot := 9, constantValue := 0 }, { name := "LOG2_BYTE_BIT_SIZE", type := .int, accessFlags := 26, slot := 10, constantValue := 0 }, { name := "T_BOOLEAN", type := .int, accessFlags := 25, slot := 11, constantValue := 0 }, { name := "T_CHAR", type := .int, accessFlags := 25, slot := 12, constantValue := 0 }, { name := "T_FLOAT", type := .int, accessFlags := 25, slot := 13, constantValue := 0 }, { name := "T_DOUBLE", type := .int, accessFlags := 25, slot := 14, constantValue := 0 }, { name := "T_BYTE", type := .int, accessFlags := 25, slot := 15, constantValue := 0 }, { name := "T_SHORT", type := .int, accessFlags := 25, slot := 16, constantValue := 0 }, { name := "T_INT", type := .int, accessFlags := 25, slot := 17, constantValue := 0 }, { name := "T_LONG", type := .int, accessFlags := 25, slot := 18, constantValue := 0 }, { name := "JLA", type := (.object "jdk/internal/access/JavaLangAccess"), accessFlags := 26, slot := 19, constantValue := 0 }, { name := "SOFT_MAX_ARRAY_LENGTH", type := .int, accessFlags := 25, slot := 20, constantValue := 0 }]
  methods := #[k12m0]
  instanceTypes := #[]
  staticTypes := #[(.object "jdk/internal/misc/Unsafe"), .boolean, .int, .int, .int, .int, .int, .int, .int, .int, .int, .int, .int, .int, .int, .int, .int, .int, .int, (.object "jdk/internal/access/JavaLangAccess"), .int]
  resolved := Array.replicate 378 none
  statics := none }

def pool13 : Array CpInfo := pool [(1, u "java/lang/Cloneable"), (0, .class_ 1), (0, u "java/lang/Object"), (0, .class_ 3)] 3

/-- java/lang/Cloneable -/
def k13 : Class := { plain "java/lang/Cloneable" (some 0) with
  accessFlags := 1537
  interfaces := #[]
  cf := some (fileOf pool13 2 #[] #[] 1537 4 #[] #[])
  fields := #[]
  methods := #[]
  instanceTypes := #[]
  staticTypes := #[]
  resolved := Array.replicate 8 none
  statics := none }

/-- the primitive byte -/
def k14 : Class := { plain "byte" none with kind := .primitive 'B', accessFlags := 0x411 }
/-- [B -/
def k15 : Class := { plain "[B" (some 0) with kind := .array 14 .byte, interfaces := #[13, 4], accessFlags := 1041 }

/-- the primitive int -/
def k16 : Class := { plain "int" none with kind := .primitive 'I', accessFlags := 0x411 }
/-- [I -/
def k17 : Class := { plain "[I" (some 0) with kind := .array 16 .int, interfaces := #[13, 4], accessFlags := 1041 }

def heap : Heap := #[{ cls := 6, slots := #[.ref 3, .ref 4, .ref 5, .ref 6, .ref 7, .ref 8, .null], vm := .statics 6 },
  { cls := 9, slots := #[.long 0, .int 1, .null, .int 0, .null, .int 0, .int 0], vm := .statics 9 },
  { cls := 11, slots := #[.null, .null, .null], vm := .statics 11 },
  { cls := 6, slots := #[.null, .int 0, .int 0, .ref 9], vm := .none },
  { cls := 6, slots := #[.null, .int 1, .int 0, .ref 10], vm := .none },
  { cls := 6, slots := #[.null, .int 2, .int 0, .ref 11], vm := .none },
  { cls := 6, slots := #[.null, .int 3, .int 0, .ref 12], vm := .none },
  { cls := 6, slots := #[.null, .int 4, .int 0, .ref 13], vm := .none },
  { cls := 6, slots := #[.null, .int 5, .int 0, .ref 14], vm := .none },
  { cls := 9, slots := #[.ref 15, .int 0, .int 0, .int 0], vm := .none },
  { cls := 9, slots := #[.ref 16, .int 0, .int 0, .int 0], vm := .none },
  { cls := 9, slots := #[.ref 17, .int 0, .int 0, .int 0], vm := .none },
  { cls := 9, slots := #[.ref 18, .int 0, .int 0, .int 0], vm := .none },
  { cls := 9, slots := #[.ref 19, .int 0, .int 0, .int 0], vm := .none },
  { cls := 9, slots := #[.ref 20, .int 0, .int 0, .int 0], vm := .none },
  { cls := 15, slots := #[.int 61], vm := .none },
  { cls := 15, slots := #[.int 33, .int 61], vm := .none },
  { cls := 15, slots := #[.int 60], vm := .none },
  { cls := 15, slots := #[.int 60, .int 61], vm := .none },
  { cls := 15, slots := #[.int 62], vm := .none },
  { cls := 15, slots := #[.int 62, .int 61], vm := .none }]
def classes : Array Class := #[k0, k1, k2, k3, k4, k5, k6, k7, k8, k9, k10, k11, k12, k13, k14, k15, k16, k17]
def interned : List (Array UInt16 × Addr) := []
def slotsUsed : Nat := 74
def theMethod : MethodId := ⟨1, 2⟩
def args0 : Array Value := #[.int 3]
def aboutOver (below : List Frame) : State where
  vm := { classes := classes, interned := interned.toArray }
  heap := heap
  slotsUsed := slotsUsed
  threads := #[{ frames := .invoking theMethod args0 :: below }]
def below0 : List Frame := [.native { method := ⟨0, 0⟩, args := #[] }]
def about1 : State := aboutOver below0
def p0 : Program := .bare "" "" ""
def e0 : Env := launch0.env 0 0 0
theorem w_frames : about1.frames = Frame.invoking theMethod args0 :: below0 := rfl
set_option maxRecDepth 65536 in
theorem w_args : argsFit about1.vm theMethod args0 = true := by decide +kernel
set_option maxRecDepth 65536 in
theorem w_heap : heapFits about1 = true := by decide +kernel
set_option maxRecDepth 65536 in
theorem w_runnable : about1.curStatus? = some .runnable := by decide +kernel
set_option maxRecDepth 65536 in
theorem w_alone : about1.alone = true := by decide +kernel
set_option maxRecDepth 65536 in
theorem w_named : about1.methodNamed? x = some theMethod := by decide +kernel
set_option maxRecDepth 65536 in
theorem w_hears : about1.hears theMethod below0 = true := by decide +kernel
set_option maxRecDepth 65536 in
theorem w_ripe : about1.ripe theMethod args0 below0 = true := by decide +kernel
theorem w_running : about1.status = .running := rfl
set_option maxRecDepth 65536 in
theorem w_room : about1.hasRoom e0.platform room_1 = true :=
  launch0.hasRoom_least _ room_1 (by decide +kernel) (by decide +kernel) (by decide +kernel) (by decide +kernel) (by decide +kernel) (by decide +kernel)
theorem allAtoms_all (ts : List Jvm.Cond) (a : Array Jvm.Value) (st : Jvm.State) : (allAtoms ts).before a st = ts.all (fun c => c.before a st) := by
  induction ts with
  | nil => rfl
  | cons c t ih =>
    show (Jvm.Cond.and c (allAtoms t)).before a st = _
    rw [Jvm.Cond.before_and, ih, List.all_cons]
def words1 : List Jvm.Cond := Jvm.Cond.code x code maxLocals ret :: tables_1
/-- a 'code' word, met by the world's own term for the bytes: nothing is compared byte by byte -/
theorem code_word {y : MethodName} {bytes : ByteArray} {mx : Nat} {rt : Option FieldType} {a : Array Value} {s : State} {m : MethodId} {meth : Method} {c : Code} (h1 : s.methodNamed? y = some m) (h2 : s.vm.method? m = some meth) (h3 : meth.code = some c) (h4 : c.code = bytes)
    (h5 : (c.maxLocals == mx && c.exceptionTable.isEmpty && decide (c.maxStack ≤ mostOperands) && decide (meth.sig.returnType = rt) && !meth.locks && decide (parseMethodDescriptor y.desc = some meth.sig)) = true) : (Jvm.Cond.code y bytes mx rt).before a s = true := by
  simp only [Bool.and_eq_true, beq_iff_eq, Bool.not_eq_true', decide_eq_true_eq] at h5
  obtain ⟨⟨⟨⟨⟨g1, g2⟩, g3⟩, g4⟩, g5⟩, g6⟩ := h5
  simp [Cond.before, Cond.holds, Cond.value, h1, h2, h3, h4, g1, g2, g3, g4, g5, g6]
def isCode : Jvm.Cond → Bool
  | .code _ _ _ _ => true
  | _ => false
theorem all_split {L : List Jvm.Cond} {P : Jvm.Cond → Bool} (h1 : L.all (fun c => isCode c || P c) = true) (h2 : ∀ c ∈ L.filter isCode, P c = true) : L.all P = true := by
  refine List.all_eq_true.mpr fun c hc => ?_
  have h := List.all_eq_true.mp h1 c hc
  rcases Bool.eq_false_or_eq_true (isCode c) with hi | hi
  · exact h2 c (List.mem_filter.mpr ⟨hc, hi⟩)
  · simpa [hi] using h
set_option maxRecDepth 65536 in
theorem w_c0 : (Jvm.Cond.code x code maxLocals ret).before args0 about1 = true := code_word (m := ⟨1, 2⟩) (meth := k1m2) (c := k1c2) (by decide +kernel) rfl rfl rfl (by decide +kernel)
set_option maxRecDepth 65536 in
theorem w_c1 : (Jvm.Cond.code ({ cls := "com/example/tollgate/tollgate/policy/ComparatorOrdersPinLaw", name := "pick", desc := "(I)Lcom/example/tollgate/tollgate/policy/Condition$Comparator;" } : Jvm.MethodName) method_2_code (1 : Nat) (Option.some (Jvm.ClassFile.FieldType.object "com/example/tollgate/tollgate/policy/Condition$Comparator"))).before args0 about1 = true := code_word (m := ⟨1, 1⟩) (meth := k1m1) (c := k1c1) (by decide +kernel) rfl rfl rfl (by decide +kernel)
set_option maxRecDepth 65536 in
theorem w_c2 : (Jvm.Cond.code ({ cls := "com/example/tollgate/tollgate/policy/Condition$Comparator", name := "toString", desc := "()Ljava/lang/String;" } : Jvm.MethodName) prog_64_method_6_code (1 : Nat) (Option.some (Jvm.ClassFile.FieldType.object "java/lang/String"))).before args0 about1 = true := code_word (m := ⟨6, 1⟩) (meth := k6m1) (c := k6c1) (by decide +kernel) rfl rfl rfl (by decide +kernel)
set_option maxRecDepth 65536 in
theorem w_c3 : (Jvm.Cond.code ({ cls := "java/lang/String", name := "charAt", desc := "(I)C" } : Jvm.MethodName) jdk_42_method_56_code (2 : Nat) (Option.some Jvm.ClassFile.FieldType.char)).before args0 about1 = true := code_word (m := ⟨9, 1⟩) (meth := k9m1) (c := k9c1) (by decide +kernel) rfl rfl rfl (by decide +kernel)
set_option maxRecDepth 65536 in
theorem w_c4 : (Jvm.Cond.code ({ cls := "java/lang/String", name := "isLatin1", desc := "()Z" } : Jvm.MethodName) jdk_42_method_154_code (1 : Nat) (Option.some Jvm.ClassFile.FieldType.boolean)).before args0 about1 = true := code_word (m := ⟨9, 2⟩) (meth := k9m2) (c := k9c2) (by decide +kernel) rfl rfl rfl (by decide +kernel)
set_option maxRecDepth 65536 in
theorem w_c5 : (Jvm.Cond.code ({ cls := "java/lang/StringLatin1", name := "charAt", desc := "([BI)C" } : Jvm.MethodName) jdk_43_method_2_code (2 : Nat) (Option.some Jvm.ClassFile.FieldType.char)).before args0 about1 = true := code_word (m := ⟨10, 1⟩) (meth := k10m1) (c := k10c1) (by decide +kernel) rfl rfl rfl (by decide +kernel)
set_option maxRecDepth 65536 in
theorem w_c6 : (Jvm.Cond.code ({ cls := "java/lang/String", name := "checkIndex", desc := "(II)V" } : Jvm.MethodName) jdk_42_method_155_code (2 : Nat) (Option.none : Option Jvm.ClassFile.FieldType)).before args0 about1 = true := code_word (m := ⟨9, 3⟩) (meth := k9m3) (c := k9c3) (by decide +kernel) rfl rfl rfl (by decide +kernel)
set_option maxRecDepth 65536 in
theorem w_c7 : (Jvm.Cond.code ({ cls := "jdk/internal/util/Preconditions", name := "checkIndex", desc := "(IILjava/util/function/BiFunction;)I" } : Jvm.MethodName) jdk_41_method_11_code (3 : Nat) (Option.some Jvm.ClassFile.FieldType.int)).before args0 about1 = true := code_word (m := ⟨11, 1⟩) (meth := k11m1) (c := k11c1) (by decide +kernel) rfl rfl rfl (by decide +kernel)
set_option maxRecDepth 65536 in
theorem w_c8 : (Jvm.Cond.code ({ cls := "com/example/tollgate/tollgate/policy/Condition$Comparator", name := "orders", desc := "()Z" } : Jvm.MethodName) prog_64_method_5_code (1 : Nat) (Option.some Jvm.ClassFile.FieldType.boolean)).before args0 about1 = true := code_word (m := ⟨6, 0⟩) (meth := k6m0) (c := k6c0) (by decide +kernel) rfl rfl rfl (by decide +kernel)
def codes1 : List Jvm.Cond := [Jvm.Cond.code x code maxLocals ret, Jvm.Cond.code ({ cls := "com/example/tollgate/tollgate/policy/ComparatorOrdersPinLaw", name := "pick", desc := "(I)Lcom/example/tollgate/tollgate/policy/Condition$Comparator;" } : Jvm.MethodName) method_2_code (1 : Nat) (Option.some (Jvm.ClassFile.FieldType.object "com/example/tollgate/tollgate/policy/Condition$Comparator")), Jvm.Cond.code ({ cls := "com/example/tollgate/tollgate/policy/Condition$Comparator", name := "toString", desc := "()Ljava/lang/String;" } : Jvm.MethodName) prog_64_method_6_code (1 : Nat) (Option.some (Jvm.ClassFile.FieldType.object "java/lang/String")), Jvm.Cond.code ({ cls := "java/lang/String", name := "charAt", desc := "(I)C" } : Jvm.MethodName) jdk_42_method_56_code (2 : Nat) (Option.some Jvm.ClassFile.FieldType.char), Jvm.Cond.code ({ cls := "java/lang/String", name := "isLatin1", desc := "()Z" } : Jvm.MethodName) jdk_42_method_154_code (1 : Nat) (Option.some Jvm.ClassFile.FieldType.boolean), Jvm.Cond.code ({ cls := "java/lang/StringLatin1", name := "charAt", desc := "([BI)C" } : Jvm.MethodName) jdk_43_method_2_code (2 : Nat) (Option.some Jvm.ClassFile.FieldType.char), Jvm.Cond.code ({ cls := "java/lang/String", name := "checkIndex", desc := "(II)V" } : Jvm.MethodName) jdk_42_method_155_code (2 : Nat) (Option.none : Option Jvm.ClassFile.FieldType), Jvm.Cond.code ({ cls := "jdk/internal/util/Preconditions", name := "checkIndex", desc := "(IILjava/util/function/BiFunction;)I" } : Jvm.MethodName) jdk_41_method_11_code (3 : Nat) (Option.some Jvm.ClassFile.FieldType.int), Jvm.Cond.code ({ cls := "com/example/tollgate/tollgate/policy/Condition$Comparator", name := "orders", desc := "()Z" } : Jvm.MethodName) prog_64_method_5_code (1 : Nat) (Option.some Jvm.ClassFile.FieldType.boolean)]
set_option maxRecDepth 65536 in
theorem codes_eq : words1.filter isCode = codes1 := rfl
theorem w_codes : ∀ c ∈ words1.filter isCode, c.before args0 about1 = true := by
  rw [codes_eq]
  intro c hc
  simp only [codes1, List.mem_cons, List.not_mem_nil, or_false] at hc
  rcases hc with rfl | rfl | rfl | rfl | rfl | rfl | rfl | rfl | rfl
  · exact w_c0
  · exact w_c1
  · exact w_c2
  · exact w_c3
  · exact w_c4
  · exact w_c5
  · exact w_c6
  · exact w_c7
  · exact w_c8
set_option maxRecDepth 65536 in
theorem w_t1 : (words1.take 24).all (fun c => isCode c || c.before args0 about1) = true := by decide +kernel
set_option maxRecDepth 65536 in
theorem w_t2 : ((words1.drop 24).take 24).all (fun c => isCode c || c.before args0 about1) = true := by decide +kernel
set_option maxRecDepth 65536 in
theorem w_t3 : ((words1.drop 24).drop 24).all (fun c => isCode c || c.before args0 about1) = true := by decide +kernel
theorem w_tables : (allAtoms (Jvm.Cond.code x code maxLocals ret :: tables_1)).before args0 about1 = true := by
  rw [allAtoms_all]
  show words1.all (fun c => c.before args0 about1) = true
  refine all_split ?_ w_codes
  rw [← List.take_append_drop 24 words1, List.all_append, w_t1, ← List.take_append_drop 24 (words1.drop 24), List.all_append, w_t2, w_t3]
  rfl
set_option maxRecDepth 65536 in
theorem w_rest : rest_1_c.before args0 about1 = true := by decide +kernel
set_option maxRecDepth 65536 in
theorem w_case : (Jvm.Cond.and given_1 narrow_1).before args0 about1 = true := by decide +kernel
theorem w_applies : (headSpec (Jvm.Cond.code x code maxLocals ret :: tables_1) room_1).applies x e0.platform about1 = true :=
  (Spec.applies_iff w_frames).mpr ⟨w_running, w_runnable, w_alone, w_named, w_hears, w_ripe, w_room, w_tables⟩
theorem atStart : AtStart classFile x code maxLocals ret World_1 tables_1 room_1 Calls_1 rest_1 Pre_1 launch0 p0 e0 about1 theMethod args0 below0 :=
  ⟨lists_1, trivial, launch0.admits_env _ _ _, launch0.least_env, fairChoices_fair.cas, fairChoices_fair.clock, w_frames, w_args, w_heap, w_applies, trivial, w_rest, w_case⟩
end start1
theorem witness_1 : WitnessClaimed_1 := ⟨start1.p0, start1.e0, start1.about1, start1.theMethod, start1.args0, start1.below0, start1.atStart⟩
end Jvm.Pilot.@@N@@
