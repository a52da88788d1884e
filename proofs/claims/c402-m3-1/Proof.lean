import JvmDerived
import JvmDerived.Pilot.@@N@@Statement
import JvmDerived.Pilot.@@N@@Code
set_option linter.unusedVariables false
set_option linter.unusedSimpArgs false
namespace Jvm.RoadKit
open Sem ClassFile Op Lib Jvm.Stand Jvm.Free Jvm.LawKit
section OwnRuns
variable {p : Program} {l : Launch} {e : Env} {R : Room} {s : State} {m : MethodId} {args : Array Value} {below : List Frame} {meth : Method} {c : Code} {T : State} {locs : List Loc} {cells slots : Nat}
/-- from U the invocation comes to its end, and there Q holds -/
def Runs (p : Program) (e : Env) (below : List Frame) (Q : Outcome → State → Prop) (U : State) : Prop :=
  ∃ s₂ o, Steps p.tables e below U s₂ ∧ s₂.status = .running ∧ Ended s₂ below o ∧ Q o s₂
def QE (s : State) (Q : Option Value → Heap → List Loc → Prop) (C S : Nat) : Outcome → State → Prop :=
  fun o U' => ∃ v L, o = .returned v ∧ Q v U'.heap L ∧ FrameEnd s o U' L C S
theorem Runs.by {Q : Outcome → State → Prop} {U U' : State} (h : ∀ t, Steps p.tables e below U' t → Steps p.tables e below U t) (k : Runs p e below Q U') : Runs p e below Q U := by
  obtain ⟨s2, o, h1, h2⟩ := k
  exact ⟨s2, o, h _ h1, h2⟩
theorem Runs.ret {Q : Option Value → Heap → List Loc → Prop} {C S : Nat} {t : FieldType} {w : Value} {i : Instr} {pc : Nat} {Ls : Array Slot} {rest : List Value}
    (X : Stand p l e R s m args below meth c T locs cells slots) (hx : p.tables.exec = Jvm.exec) (hret : meth.sig.returnType = some t) (hlk : meth.locks = false)
    (hi : (i = .ireturn ∧ (t = .int ∨ t = .boolean ∨ t = .byte ∨ t = .char ∨ t = .short) ∧ ∃ z, w = .int z) ∨ (i = .lreturn ∧ t = .long ∧ ∃ z, w = .long z) ∨ (i = .dreturn ∧ t = .double ∧ ∃ z, w = .double z) ∨ (i = .freturn ∧ t = .float ∧ ∃ z, w = .float z) ∨ (i = .areturn ∧ t.isReference = true ∧ w.isRef = true))
    (hn : narrow t w = w) (hd : decode c.code pc = .ok (i, 1)) (hC : cells ≤ C) (hS : slots ≤ S) (hQ : Q (some w) T.heap locs) : Runs p e below (QE s Q C S) (T.setTop (mkF m pc Ls (w :: rest))) := by
  obtain ⟨fs, hr, hrun, hended, hW, hsame⟩ := X.leave (v := some w) (fun h => by rw [hret] at h; cases h) hlk
  exact ⟨_, _, retOut X hx hret hn hi hd hr, hrun, hended, _, _, rfl, hQ, ⟨_, rfl⟩, hW, hsame.mono hC hS⟩
theorem Runs.retV {Q : Option Value → Heap → List Loc → Prop} {C S : Nat} {pc : Nat} {Ls : Array Slot}
    (X : Stand p l e R s m args below meth c T locs cells slots) (hx : p.tables.exec = Jvm.exec) (hret : meth.sig.returnType = none) (hlk : meth.locks = false)
    (hd : decode c.code pc = .ok (.return_, 1)) (hC : cells ≤ C) (hS : slots ≤ S) (hQ : Q none T.heap locs) : Runs p e below (QE s Q C S) (T.setTop (mkF m pc Ls [])) := by
  obtain ⟨fs, hr, hrun, hended, hW, hsame⟩ := X.leave (v := none) (fun _ => rfl) hlk
  exact ⟨_, _, X.returnOut hx hret hd hr, hrun, hended, _, _, rfl, hQ, ⟨_, rfl⟩, hW, hsame.mono hC hS⟩
theorem own_narrow_b (x : Int32) (h : x = 0 ∨ x = 1) : narrow .boolean (.int x) = .int x := by rcases h with rfl | rfl <;> rfl
end OwnRuns
end Jvm.RoadKit
namespace Jvm.Pilot.@@N@@
open Jvm Jvm.ClassFile Sem Op Lib Jvm.Free Jvm.Stand Jvm.LawKit Jvm.RoadKit Bundle Jvm.Pilot.@@N@@.Jvm.D
def own_st (a x : Int64) : Int64 := x * (2 - a * x)
def own_inv (a : Int64) : Int64 := own_st a (own_st a (own_st a (own_st a (own_st a a))))
def own_x2 (k : Int32) (x : Int64) : Int64 := x ^^^ ((x.toUInt64 >>> (k &&& 0x3f).toInt64.toUInt64).toInt64)
def own_x3 (k j : Int32) (x : Int64) : Int64 := (x ^^^ ((x.toUInt64 >>> (k &&& 0x3f).toInt64.toUInt64).toInt64)) ^^^ ((x.toUInt64 >>> (j &&& 0x3f).toInt64.toUInt64).toInt64)
def own_mix (x : Int64) : Int64 := own_x2 31 ((own_x2 27 ((own_x2 30 x) * (-4658895280553007687))) * (-7723592293110705685))
def own_unmix (r : Int64) : Int64 := own_x3 30 60 ((own_x3 27 54 ((own_x3 31 62 r) * own_inv (-7723592293110705685))) * own_inv (-4658895280553007687))
theorem own_bx (x : BitVec 64) (k j : Nat) (h1 : j = k + k) (h2 : 64 ≤ j + k) : ((x ^^^ (x >>> k)) ^^^ ((x ^^^ (x >>> k)) >>> k)) ^^^ ((x ^^^ (x >>> k)) >>> j) = x := by
  subst h1
  rw [BitVec.ushiftRight_xor_distrib, BitVec.ushiftRight_xor_distrib, ← BitVec.shiftRight_add, ← BitVec.shiftRight_add]
  have e : x >>> (k + (k + k)) = 0#64 := BitVec.ushiftRight_eq_zero (by omega)
  rw [e]
  generalize x >>> k = a
  generalize x >>> (k + k) = b
  apply BitVec.eq_of_getLsbD_eq
  intro i hi
  simp only [BitVec.getLsbD_xor, BitVec.getLsbD_zero]
  cases x.getLsbD i <;> cases a.getLsbD i <;> cases b.getLsbD i <;> rfl
theorem own_x30 (x : Int64) : own_x3 30 60 (own_x2 30 x) = x := Int64.toBitVec_inj.mp (own_bx x.toBitVec 30 60 rfl (by decide))
theorem own_x27 (x : Int64) : own_x3 27 54 (own_x2 27 x) = x := Int64.toBitVec_inj.mp (own_bx x.toBitVec 27 54 rfl (by decide))
theorem own_x31 (x : Int64) : own_x3 31 62 (own_x2 31 x) = x := Int64.toBitVec_inj.mp (own_bx x.toBitVec 31 62 rfl (by decide))
theorem own_i1 : (-4658895280553007687 : Int64) * own_inv (-4658895280553007687) = 1 := by decide +kernel
theorem own_i2 : (-7723592293110705685 : Int64) * own_inv (-7723592293110705685) = 1 := by decide +kernel
theorem own_unmix_mix (x : Int64) : own_unmix (own_mix x) = x := by
  unfold own_unmix own_mix
  rw [own_x31, Int64.mul_assoc, own_i2, Int64.mul_one, own_x27, Int64.mul_assoc, own_i1, Int64.mul_one, own_x30]
theorem own_lc0 {x y : Int64} (h : x = y) : lcmpW x y = 0 := by
  subst h
  have : ¬ (x > x) := Int64.lt_irrefl
  simp [lcmpW, this]
theorem d1_0 : decode prog_244_method_1_code 0 = .ok (.aload_n 0, 1) := by decide +kernel
theorem d1_1 : decode prog_244_method_1_code 1 = .ok (.invokespecial 1, 3) := by decide +kernel
theorem d1_4 : decode prog_244_method_1_code 4 = .ok (.aload_n 0, 1) := by decide +kernel
theorem d1_5 : decode prog_244_method_1_code 5 = .ok (.lload_n 1, 1) := by decide +kernel
theorem d1_6 : decode prog_244_method_1_code 6 = .ok (.putfield 7, 3) := by decide +kernel
theorem d1_9 : decode prog_244_method_1_code 9 = .ok (.return_, 1) := by decide +kernel
theorem ef_1_0 (m : MethodId) (o0 : Addr) (q1 : Int64) : entryFrame m #[(.ref o0), (.long q1)] 3 = mkF m 0 #[.val (.ref o0), .val (.long q1), .second] [] := by first | (simp [entryFrame, mkF, argsToLocals, Value.category]; done) | rfl
theorem pn_com_example_dialtone_dialtone_workload_RandomStream : plainName "com/example/dialtone/dialtone/workload/RandomStream" = true := by first | (simp [plainName, overriddenIn]; done) | decide +kernel
def Q_rm1 (Z : State) (o0 : Addr) (q1 : Int64)  (h0 : Heap) (n0 : Nat) (v : Option Value) (h : Heap) (L : List Loc) : Prop := v = none ∧ Fr n0 L ∧ Keep h0 h [o0] ∧ Exa Z h o0 "com/example/dialtone/dialtone/workload/RandomStream" ∧ Fld Z h o0 "com/example/dialtone/dialtone/workload/RandomStream" "state" "J" (.long q1)
set_option maxRecDepth 65536 in
set_option maxHeartbeats 40000000 in
theorem rm1 (l : Launch) (Z : State) (a0 : Array Value) (hw : ∀ d ∈ tables_1, d.before a0 Z = true) (ws : List Jvm.Cond) (o0 : Addr) (q1 : Int64)  (h0 : Heap) (n0 : Nat) (Z0 : n0 ≤ h0.size) (E0 : Exa Z h0 o0 "com/example/dialtone/dialtone/workload/RandomStream") (F0 : Fld Z h0 o0 "com/example/dialtone/dialtone/workload/RandomStream" "state" "J" (.long (0 : Int64))) (g_o0 : n0 ≤ o0) :
    MetFree l (⟨"com/example/dialtone/dialtone/workload/RandomStream", "<init>", "(J)V"⟩ : MethodName) (head1 (Jvm.Cond.code (⟨"com/example/dialtone/dialtone/workload/RandomStream", "<init>", "(J)V"⟩ : MethodName) prog_244_method_1_code 3 none :: ws) ({ frames := 1, cells := 0, slots := 0, locals := 12 } : Room)) (fun a U => a = #[(.ref o0), (.long q1)] ∧ Z.Warmed39 U.vm ∧ U.heap = h0) (fun _ _ _ _ _ => True) (fun _ U o U' => ∃ v L, o = .returned v ∧ Q_rm1 Z o0 q1 h0 n0 v U'.heap L ∧ FrameEnd U o U' L ({ frames := 1, cells := 0, slots := 0, locals := 12 } : Room).cells ({ frames := 1, cells := 0, slots := 0, locals := 12 } : Room).slots) := by
  refine MetFree.of_bodySF (plainFor_of_name pn_com_example_dialtone_dialtone_workload_RandomStream) hisR ?_
  intro p e s m args below meth c s₁ Bd hml0 hP hK
  obtain ⟨rfl, hZ, hh⟩ := hP
  have hx := Bd.exec
  have hby := Bd.bytes
  have hlk := BodyLoose.notSynchronized Bd
  have hrt := Bd.returns
  have hml : c.maxLocals = 3 := hml0
  have hown : s.vm.findClass "com/example/dialtone/dialtone/workload/RandomStream" = some m.cls := findClass_of_methodNamed Bd.named
  have hnm := (name_of_methodNamed Bd.named Bd.method).1
  have X0 : Stand p l e ({ frames := 1, cells := 0, slots := 0, locals := 12 } : Room) s m #[(.ref o0), (.long q1)] below meth c s₁ [] 0 0 := Stand.of_body Bd
  have e0 : s₁.heap = h0 := by rw [← hh, Bd.state]; rfl
  have N0 := Fr.nil n0
  have K0 : Keep h0 h0 [o0] := Keep.refl h0 _
  show Runs p e below (QE s (Q_rm1 Z o0 q1 h0 n0) ({ frames := 1, cells := 0, slots := 0, locals := 12 } : Room).cells ({ frames := 1, cells := 0, slots := 0, locals := 12 } : Room).slots) (s₁.setTop (entryFrame m #[(.ref o0), (.long q1)] 3))
  rw [ef_1_0 m o0 q1]
  show Runs p e below _ (s₁.setTop (mkF m 0 #[.val (.ref o0), .val (.long q1), .second] []))
  refine Runs.by (fun _ hr => XS.aloadN X0.here hx rfl (hb hby d1_0) rfl rfl hr) ?_
  show Runs p e below _ (s₁.setTop (mkF m 1 #[.val (.ref o0), .val (.long q1), .second] [(.ref o0)]))
  obtain ⟨T1, X1, e1, st1⟩ := initO X0 hx hZ hown (hw _ (List.mem_of_getElem? (i := 7) rfl)) (hw _ (List.mem_of_getElem? (i := 8) rfl)) (hw _ (List.mem_of_getElem? (i := 9) rfl)) e0 (g := (mkF m 1 #[.val (.ref o0), .val (.long q1), .second] [(.ref o0)])) rfl (by rw [hml]; rfl) rfl (hb hby d1_1) (by decide) (W := 0) (by show 2 * 0 + _ ≤ _; exact Nat.le_of_eq rfl) (by decide)
  refine Runs.by st1 ?_
  show Runs p e below _ (T1.setTop (mkF m 4 #[.val (.ref o0), .val (.long q1), .second] []))
  refine Runs.by (fun _ hr => XS.aloadN X1.here hx rfl (hb hby d1_4) rfl rfl hr) ?_
  show Runs p e below _ (T1.setTop (mkF m 5 #[.val (.ref o0), .val (.long q1), .second] [(.ref o0)]))
  refine Runs.by (fun _ hr => XS.lloadN X1.here hx rfl (hb hby d1_5) rfl  hr) ?_
  show Runs p e below _ (T1.setTop (mkF m 6 #[.val (.ref o0), .val (.long q1), .second] [(.long q1), (.ref o0)]))
  obtain ⟨T2, h2, X2, e2, W2, st2⟩ := putF X1 hx hZ hown (host := "") (Or.inl (hw _ (List.mem_of_getElem? (i := 10) rfl))) Via.refl e1 F0 E0 (Or.inl (hw _ (List.mem_of_getElem? (i := 11) rfl))) (hw _ (List.mem_of_getElem? (i := 2) rfl)) (ty := .long) (by decide) rfl rfl (g := (mkF m 6 #[.val (.ref o0), .val (.long q1), .second] [(.long q1), (.ref o0)])) rfl rfl (hb hby d1_6)
  have Fw2 := F0.same W2
  have K3 : Keep h0 h2 [o0] := K0.wr W2 (Or.inl (List.mem_of_getElem? (i := 0) rfl))
  have N2 := Fr.snoc X2 N0 g_o0
  refine Runs.by st2 ?_
  show Runs p e below _ (T2.setTop (mkF m 9 #[.val (.ref o0), .val (.long q1), .second] []))
  refine Runs.retV X2 hx hrt hlk (hb hby d1_9) (by decide) (by decide) ?_
  rw [e2]
  exact ⟨rfl, N2, K3, (E0.wr W2), Fw2⟩
theorem d3_0 : decode prog_244_method_2_code 0 = .ok (.aload_n 0, 1) := by decide +kernel
theorem d3_1 : decode prog_244_method_2_code 1 = .ok (.dup, 1) := by decide +kernel
theorem d3_2 : decode prog_244_method_2_code 2 = .ok (.getfield 7, 3) := by decide +kernel
theorem d3_5 : decode prog_244_method_2_code 5 = .ok (.ldc2_w 13, 3) := by decide +kernel
theorem d3_8 : decode prog_244_method_2_code 8 = .ok (.ladd, 1) := by decide +kernel
theorem d3_9 : decode prog_244_method_2_code 9 = .ok (.putfield 7, 3) := by decide +kernel
theorem d3_12 : decode prog_244_method_2_code 12 = .ok (.aload_n 0, 1) := by decide +kernel
theorem d3_13 : decode prog_244_method_2_code 13 = .ok (.getfield 7, 3) := by decide +kernel
theorem d3_16 : decode prog_244_method_2_code 16 = .ok (.lstore_n 1, 1) := by decide +kernel
theorem d3_17 : decode prog_244_method_2_code 17 = .ok (.lload_n 1, 1) := by decide +kernel
theorem d3_18 : decode prog_244_method_2_code 18 = .ok (.lload_n 1, 1) := by decide +kernel
theorem d3_19 : decode prog_244_method_2_code 19 = .ok (.bipush 30, 2) := by decide +kernel
theorem d3_21 : decode prog_244_method_2_code 21 = .ok (.lushr, 1) := by decide +kernel
theorem d3_22 : decode prog_244_method_2_code 22 = .ok (.lxor, 1) := by decide +kernel
theorem d3_23 : decode prog_244_method_2_code 23 = .ok (.ldc2_w 15, 3) := by decide +kernel
theorem d3_26 : decode prog_244_method_2_code 26 = .ok (.lmul, 1) := by decide +kernel
theorem d3_27 : decode prog_244_method_2_code 27 = .ok (.lstore_n 1, 1) := by decide +kernel
theorem d3_28 : decode prog_244_method_2_code 28 = .ok (.lload_n 1, 1) := by decide +kernel
theorem d3_29 : decode prog_244_method_2_code 29 = .ok (.lload_n 1, 1) := by decide +kernel
theorem d3_30 : decode prog_244_method_2_code 30 = .ok (.bipush 27, 2) := by decide +kernel
theorem d3_32 : decode prog_244_method_2_code 32 = .ok (.lushr, 1) := by decide +kernel
theorem d3_33 : decode prog_244_method_2_code 33 = .ok (.lxor, 1) := by decide +kernel
theorem d3_34 : decode prog_244_method_2_code 34 = .ok (.ldc2_w 17, 3) := by decide +kernel
theorem d3_37 : decode prog_244_method_2_code 37 = .ok (.lmul, 1) := by decide +kernel
theorem d3_38 : decode prog_244_method_2_code 38 = .ok (.lstore_n 1, 1) := by decide +kernel
theorem d3_39 : decode prog_244_method_2_code 39 = .ok (.lload_n 1, 1) := by decide +kernel
theorem d3_40 : decode prog_244_method_2_code 40 = .ok (.lload_n 1, 1) := by decide +kernel
theorem d3_41 : decode prog_244_method_2_code 41 = .ok (.bipush 31, 2) := by decide +kernel
theorem d3_43 : decode prog_244_method_2_code 43 = .ok (.lushr, 1) := by decide +kernel
theorem d3_44 : decode prog_244_method_2_code 44 = .ok (.lxor, 1) := by decide +kernel
theorem d3_45 : decode prog_244_method_2_code 45 = .ok (.lreturn, 1) := by decide +kernel
theorem ef_3_1 (m : MethodId) (o0 : Addr) : entryFrame m #[(.ref o0)] 3 = mkF m 0 #[.val (.ref o0), .unset, .unset] [] := by first | (simp [entryFrame, mkF, argsToLocals, Value.category]; done) | rfl
def Q_rm3 (Z : State) (o0 : Addr) (st : Int64) (h0 : Heap) (n0 : Nat) (v : Option Value) (h : Heap) (L : List Loc) : Prop := v = some (.long (own_mix (st + (-7046029254386353131)))) ∧ Fr n0 L ∧ Keep h0 h [o0] ∧ Exa Z h o0 "com/example/dialtone/dialtone/workload/RandomStream" ∧ Fld Z h o0 "com/example/dialtone/dialtone/workload/RandomStream" "state" "J" (.long (st + (-7046029254386353131)))
set_option maxRecDepth 65536 in
set_option maxHeartbeats 40000000 in
theorem rm3 (l : Launch) (Z : State) (a0 : Array Value) (hw : ∀ d ∈ tables_1, d.before a0 Z = true) (ws : List Jvm.Cond) (o0 : Addr) (st : Int64) (h0 : Heap) (n0 : Nat) (Z0 : n0 ≤ h0.size) (E0 : Exa Z h0 o0 "com/example/dialtone/dialtone/workload/RandomStream") (F0 : Fld Z h0 o0 "com/example/dialtone/dialtone/workload/RandomStream" "state" "J" (.long st)) (g_o0 : n0 ≤ o0) :
    MetFree l (⟨"com/example/dialtone/dialtone/workload/RandomStream", "nextLong", "()J"⟩ : MethodName) (head1 (Jvm.Cond.code (⟨"com/example/dialtone/dialtone/workload/RandomStream", "nextLong", "()J"⟩ : MethodName) prog_244_method_2_code 3 (some .long) :: ws) ({ frames := 0, cells := 0, slots := 0, locals := 0 } : Room)) (fun a U => a = #[(.ref o0)] ∧ Z.Warmed39 U.vm ∧ U.heap = h0) (fun _ _ _ _ _ => True) (fun _ U o U' => ∃ v L, o = .returned v ∧ Q_rm3 Z o0 st h0 n0 v U'.heap L ∧ FrameEnd U o U' L ({ frames := 0, cells := 0, slots := 0, locals := 0 } : Room).cells ({ frames := 0, cells := 0, slots := 0, locals := 0 } : Room).slots) := by
  refine MetFree.of_bodySF (plainFor_of_name pn_com_example_dialtone_dialtone_workload_RandomStream) hisR ?_
  intro p e s m args below meth c s₁ Bd hml0 hP hK
  obtain ⟨rfl, hZ, hh⟩ := hP
  have hx := Bd.exec
  have hby := Bd.bytes
  have hlk := BodyLoose.notSynchronized Bd
  have hrt := Bd.returns
  have hml : c.maxLocals = 3 := hml0
  have hown : s.vm.findClass "com/example/dialtone/dialtone/workload/RandomStream" = some m.cls := findClass_of_methodNamed Bd.named
  have hnm := (name_of_methodNamed Bd.named Bd.method).1
  have X0 : Stand p l e ({ frames := 0, cells := 0, slots := 0, locals := 0 } : Room) s m #[(.ref o0)] below meth c s₁ [] 0 0 := Stand.of_body Bd
  have e0 : s₁.heap = h0 := by rw [← hh, Bd.state]; rfl
  have N0 := Fr.nil n0
  have K0 : Keep h0 h0 [o0] := Keep.refl h0 _
  show Runs p e below (QE s (Q_rm3 Z o0 st h0 n0) ({ frames := 0, cells := 0, slots := 0, locals := 0 } : Room).cells ({ frames := 0, cells := 0, slots := 0, locals := 0 } : Room).slots) (s₁.setTop (entryFrame m #[(.ref o0)] 3))
  rw [ef_3_1 m o0]
  show Runs p e below _ (s₁.setTop (mkF m 0 #[.val (.ref o0), .unset, .unset] []))
  refine Runs.by (fun _ hr => XS.aloadN X0.here hx rfl (hb hby d3_0) rfl rfl hr) ?_
  show Runs p e below _ (s₁.setTop (mkF m 1 #[.val (.ref o0), .unset, .unset] [(.ref o0)]))
  refine Runs.by (fun _ hr => XS.dup X0.here hx rfl (hb hby d3_1) rfl rfl hr) ?_
  show Runs p e below _ (s₁.setTop (mkF m 2 #[.val (.ref o0), .unset, .unset] [(.ref o0), (.ref o0)]))
  obtain ⟨T1, X1, e1, st1⟩ := getF X0 hx hZ hown (host := "") (Or.inl (hw _ (List.mem_of_getElem? (i := 10) rfl))) Via.refl e0 F0 (g := (mkF m 2 #[.val (.ref o0), .unset, .unset] [(.ref o0), (.ref o0)])) rfl rfl (hb hby d3_2)
  refine Runs.by st1 ?_
  show Runs p e below _ (T1.setTop (mkF m 5 #[.val (.ref o0), .unset, .unset] [(.long st), (.ref o0)]))
  refine Runs.by (fun _ hr => X1.ldc2J hx hown (mvT hZ (hw _ (List.mem_of_getElem? (i := 17) rfl))) (g := (mkF m 5 #[.val (.ref o0), .unset, .unset] [(.long st), (.ref o0)])) rfl (hb hby d3_5) hr) ?_
  show Runs p e below _ (T1.setTop (mkF m 8 #[.val (.ref o0), .unset, .unset] [(.long (-7046029254386353131 : Int64)), (.long st), (.ref o0)]))
  refine Runs.by (fun _ hr => XS.ladd X1.here hx rfl (hb hby d3_8) rfl hr) ?_
  show Runs p e below _ (T1.setTop (mkF m 9 #[.val (.ref o0), .unset, .unset] [(.long (st + (-7046029254386353131 : Int64))), (.ref o0)]))
  obtain ⟨T2, h2, X2, e2, W2, st2⟩ := putF X1 hx hZ hown (host := "") (Or.inl (hw _ (List.mem_of_getElem? (i := 10) rfl))) Via.refl e1 F0 E0 (Or.inl (hw _ (List.mem_of_getElem? (i := 11) rfl))) (hw _ (List.mem_of_getElem? (i := 2) rfl)) (ty := .long) (by decide) rfl rfl (g := (mkF m 9 #[.val (.ref o0), .unset, .unset] [(.long (st + (-7046029254386353131 : Int64))), (.ref o0)])) rfl rfl (hb hby d3_9)
  have Fw2 := F0.same W2
  have K3 : Keep h0 h2 [o0] := K0.wr W2 (Or.inl (List.mem_of_getElem? (i := 0) rfl))
  have N2 := Fr.snoc X2 N0 g_o0
  refine Runs.by st2 ?_
  show Runs p e below _ (T2.setTop (mkF m 12 #[.val (.ref o0), .unset, .unset] []))
  refine Runs.by (fun _ hr => XS.aloadN X2.here hx rfl (hb hby d3_12) rfl rfl hr) ?_
  show Runs p e below _ (T2.setTop (mkF m 13 #[.val (.ref o0), .unset, .unset] [(.ref o0)]))
  obtain ⟨T4, X4, e4, st4⟩ := getF X2 hx hZ hown (host := "") (Or.inl (hw _ (List.mem_of_getElem? (i := 10) rfl))) Via.refl e2 Fw2 (g := (mkF m 13 #[.val (.ref o0), .unset, .unset] [(.ref o0)])) rfl rfl (hb hby d3_13)
  refine Runs.by st4 ?_
  show Runs p e below _ (T4.setTop (mkF m 16 #[.val (.ref o0), .unset, .unset] [(.long (st + (-7046029254386353131 : Int64)))]))
  refine Runs.by (fun _ hr => XS.lstoreN X4.here hx rfl (hb hby d3_16) rfl (l' := #[.val (.ref o0), .val (.long (st + (-7046029254386353131 : Int64))), .second]) rfl hr) ?_
  show Runs p e below _ (T4.setTop (mkF m 17 #[.val (.ref o0), .val (.long (st + (-7046029254386353131 : Int64))), .second] []))
  refine Runs.by (fun _ hr => XS.lloadN X4.here hx rfl (hb hby d3_17) rfl  hr) ?_
  show Runs p e below _ (T4.setTop (mkF m 18 #[.val (.ref o0), .val (.long (st + (-7046029254386353131 : Int64))), .second] [(.long (st + (-7046029254386353131 : Int64)))]))
  refine Runs.by (fun _ hr => XS.lloadN X4.here hx rfl (hb hby d3_18) rfl  hr) ?_
  show Runs p e below _ (T4.setTop (mkF m 19 #[.val (.ref o0), .val (.long (st + (-7046029254386353131 : Int64))), .second] [(.long (st + (-7046029254386353131 : Int64))), (.long (st + (-7046029254386353131 : Int64)))]))
  refine Runs.by (fun _ hr => XS.bipush X4.here hx rfl (hb hby d3_19) hr) ?_
  show Runs p e below _ (T4.setTop (mkF m 21 #[.val (.ref o0), .val (.long (st + (-7046029254386353131 : Int64))), .second] [(.int (30 : Int32)), (.long (st + (-7046029254386353131 : Int64))), (.long (st + (-7046029254386353131 : Int64)))]))
  refine Runs.by (fun _ hr => XS.lushr X4.here hx rfl (hb hby d3_21) rfl hr) ?_
  show Runs p e below _ (T4.setTop (mkF m 22 #[.val (.ref o0), .val (.long (st + (-7046029254386353131 : Int64))), .second] [(.long (((st + (-7046029254386353131 : Int64)).toUInt64 >>> ((30 : Int32) &&& 0x3f).toInt64.toUInt64).toInt64)), (.long (st + (-7046029254386353131 : Int64)))]))
  refine Runs.by (fun _ hr => XS.lxor X4.here hx rfl (hb hby d3_22) rfl hr) ?_
  show Runs p e below _ (T4.setTop (mkF m 23 #[.val (.ref o0), .val (.long (st + (-7046029254386353131 : Int64))), .second] [(.long ((st + (-7046029254386353131 : Int64)) ^^^ (((st + (-7046029254386353131 : Int64)).toUInt64 >>> ((30 : Int32) &&& 0x3f).toInt64.toUInt64).toInt64)))]))
  refine Runs.by (fun _ hr => X4.ldc2J hx hown (mvT hZ (hw _ (List.mem_of_getElem? (i := 18) rfl))) (g := (mkF m 23 #[.val (.ref o0), .val (.long (st + (-7046029254386353131 : Int64))), .second] [(.long ((st + (-7046029254386353131 : Int64)) ^^^ (((st + (-7046029254386353131 : Int64)).toUInt64 >>> ((30 : Int32) &&& 0x3f).toInt64.toUInt64).toInt64)))])) rfl (hb hby d3_23) hr) ?_
  show Runs p e below _ (T4.setTop (mkF m 26 #[.val (.ref o0), .val (.long (st + (-7046029254386353131 : Int64))), .second] [(.long (-4658895280553007687 : Int64)), (.long ((st + (-7046029254386353131 : Int64)) ^^^ (((st + (-7046029254386353131 : Int64)).toUInt64 >>> ((30 : Int32) &&& 0x3f).toInt64.toUInt64).toInt64)))]))
  refine Runs.by (fun _ hr => XS.lmul X4.here hx rfl (hb hby d3_26) rfl hr) ?_
  show Runs p e below _ (T4.setTop (mkF m 27 #[.val (.ref o0), .val (.long (st + (-7046029254386353131 : Int64))), .second] [(.long (((st + (-7046029254386353131 : Int64)) ^^^ (((st + (-7046029254386353131 : Int64)).toUInt64 >>> ((30 : Int32) &&& 0x3f).toInt64.toUInt64).toInt64)) * (-4658895280553007687 : Int64)))]))
  refine Runs.by (fun _ hr => XS.lstoreN X4.here hx rfl (hb hby d3_27) rfl (l' := #[.val (.ref o0), .val (.long (((st + (-7046029254386353131 : Int64)) ^^^ (((st + (-7046029254386353131 : Int64)).toUInt64 >>> ((30 : Int32) &&& 0x3f).toInt64.toUInt64).toInt64)) * (-4658895280553007687 : Int64))), .second]) rfl hr) ?_
  show Runs p e below _ (T4.setTop (mkF m 28 #[.val (.ref o0), .val (.long (own_x2 30 (st + (-7046029254386353131 : Int64)) * (-4658895280553007687 : Int64))), .second] []))
  refine Runs.by (fun _ hr => XS.lloadN X4.here hx rfl (hb hby d3_28) rfl  hr) ?_
  show Runs p e below _ (T4.setTop (mkF m 29 #[.val (.ref o0), .val (.long (own_x2 30 (st + (-7046029254386353131 : Int64)) * (-4658895280553007687 : Int64))), .second] [(.long (own_x2 30 (st + (-7046029254386353131 : Int64)) * (-4658895280553007687 : Int64)))]))
  refine Runs.by (fun _ hr => XS.lloadN X4.here hx rfl (hb hby d3_29) rfl  hr) ?_
  show Runs p e below _ (T4.setTop (mkF m 30 #[.val (.ref o0), .val (.long (own_x2 30 (st + (-7046029254386353131 : Int64)) * (-4658895280553007687 : Int64))), .second] [(.long (own_x2 30 (st + (-7046029254386353131 : Int64)) * (-4658895280553007687 : Int64))), (.long (own_x2 30 (st + (-7046029254386353131 : Int64)) * (-4658895280553007687 : Int64)))]))
  refine Runs.by (fun _ hr => XS.bipush X4.here hx rfl (hb hby d3_30) hr) ?_
  show Runs p e below _ (T4.setTop (mkF m 32 #[.val (.ref o0), .val (.long (own_x2 30 (st + (-7046029254386353131 : Int64)) * (-4658895280553007687 : Int64))), .second] [(.int (27 : Int32)), (.long (own_x2 30 (st + (-7046029254386353131 : Int64)) * (-4658895280553007687 : Int64))), (.long (own_x2 30 (st + (-7046029254386353131 : Int64)) * (-4658895280553007687 : Int64)))]))
  refine Runs.by (fun _ hr => XS.lushr X4.here hx rfl (hb hby d3_32) rfl hr) ?_
  show Runs p e below _ (T4.setTop (mkF m 33 #[.val (.ref o0), .val (.long (own_x2 30 (st + (-7046029254386353131 : Int64)) * (-4658895280553007687 : Int64))), .second] [(.long (((own_x2 30 (st + (-7046029254386353131 : Int64)) * (-4658895280553007687 : Int64)).toUInt64 >>> ((27 : Int32) &&& 0x3f).toInt64.toUInt64).toInt64)), (.long (own_x2 30 (st + (-7046029254386353131 : Int64)) * (-4658895280553007687 : Int64)))]))
  refine Runs.by (fun _ hr => XS.lxor X4.here hx rfl (hb hby d3_33) rfl hr) ?_
  show Runs p e below _ (T4.setTop (mkF m 34 #[.val (.ref o0), .val (.long (own_x2 30 (st + (-7046029254386353131 : Int64)) * (-4658895280553007687 : Int64))), .second] [(.long ((own_x2 30 (st + (-7046029254386353131 : Int64)) * (-4658895280553007687 : Int64)) ^^^ (((own_x2 30 (st + (-7046029254386353131 : Int64)) * (-4658895280553007687 : Int64)).toUInt64 >>> ((27 : Int32) &&& 0x3f).toInt64.toUInt64).toInt64)))]))
  refine Runs.by (fun _ hr => X4.ldc2J hx hown (mvT hZ (hw _ (List.mem_of_getElem? (i := 19) rfl))) (g := (mkF m 34 #[.val (.ref o0), .val (.long (own_x2 30 (st + (-7046029254386353131 : Int64)) * (-4658895280553007687 : Int64))), .second] [(.long ((own_x2 30 (st + (-7046029254386353131 : Int64)) * (-4658895280553007687 : Int64)) ^^^ (((own_x2 30 (st + (-7046029254386353131 : Int64)) * (-4658895280553007687 : Int64)).toUInt64 >>> ((27 : Int32) &&& 0x3f).toInt64.toUInt64).toInt64)))])) rfl (hb hby d3_34) hr) ?_
  show Runs p e below _ (T4.setTop (mkF m 37 #[.val (.ref o0), .val (.long (own_x2 30 (st + (-7046029254386353131 : Int64)) * (-4658895280553007687 : Int64))), .second] [(.long (-7723592293110705685 : Int64)), (.long ((own_x2 30 (st + (-7046029254386353131 : Int64)) * (-4658895280553007687 : Int64)) ^^^ (((own_x2 30 (st + (-7046029254386353131 : Int64)) * (-4658895280553007687 : Int64)).toUInt64 >>> ((27 : Int32) &&& 0x3f).toInt64.toUInt64).toInt64)))]))
  refine Runs.by (fun _ hr => XS.lmul X4.here hx rfl (hb hby d3_37) rfl hr) ?_
  show Runs p e below _ (T4.setTop (mkF m 38 #[.val (.ref o0), .val (.long (own_x2 30 (st + (-7046029254386353131 : Int64)) * (-4658895280553007687 : Int64))), .second] [(.long (((own_x2 30 (st + (-7046029254386353131 : Int64)) * (-4658895280553007687 : Int64)) ^^^ (((own_x2 30 (st + (-7046029254386353131 : Int64)) * (-4658895280553007687 : Int64)).toUInt64 >>> ((27 : Int32) &&& 0x3f).toInt64.toUInt64).toInt64)) * (-7723592293110705685 : Int64)))]))
  refine Runs.by (fun _ hr => XS.lstoreN X4.here hx rfl (hb hby d3_38) rfl (l' := #[.val (.ref o0), .val (.long (((own_x2 30 (st + (-7046029254386353131 : Int64)) * (-4658895280553007687 : Int64)) ^^^ (((own_x2 30 (st + (-7046029254386353131 : Int64)) * (-4658895280553007687 : Int64)).toUInt64 >>> ((27 : Int32) &&& 0x3f).toInt64.toUInt64).toInt64)) * (-7723592293110705685 : Int64))), .second]) rfl hr) ?_
  show Runs p e below _ (T4.setTop (mkF m 39 #[.val (.ref o0), .val (.long (own_x2 27 (own_x2 30 (st + (-7046029254386353131 : Int64)) * (-4658895280553007687 : Int64)) * (-7723592293110705685 : Int64))), .second] []))
  refine Runs.by (fun _ hr => XS.lloadN X4.here hx rfl (hb hby d3_39) rfl  hr) ?_
  show Runs p e below _ (T4.setTop (mkF m 40 #[.val (.ref o0), .val (.long (own_x2 27 (own_x2 30 (st + (-7046029254386353131 : Int64)) * (-4658895280553007687 : Int64)) * (-7723592293110705685 : Int64))), .second] [(.long (own_x2 27 (own_x2 30 (st + (-7046029254386353131 : Int64)) * (-4658895280553007687 : Int64)) * (-7723592293110705685 : Int64)))]))
  refine Runs.by (fun _ hr => XS.lloadN X4.here hx rfl (hb hby d3_40) rfl  hr) ?_
  show Runs p e below _ (T4.setTop (mkF m 41 #[.val (.ref o0), .val (.long (own_x2 27 (own_x2 30 (st + (-7046029254386353131 : Int64)) * (-4658895280553007687 : Int64)) * (-7723592293110705685 : Int64))), .second] [(.long (own_x2 27 (own_x2 30 (st + (-7046029254386353131 : Int64)) * (-4658895280553007687 : Int64)) * (-7723592293110705685 : Int64))), (.long (own_x2 27 (own_x2 30 (st + (-7046029254386353131 : Int64)) * (-4658895280553007687 : Int64)) * (-7723592293110705685 : Int64)))]))
  refine Runs.by (fun _ hr => XS.bipush X4.here hx rfl (hb hby d3_41) hr) ?_
  show Runs p e below _ (T4.setTop (mkF m 43 #[.val (.ref o0), .val (.long (own_x2 27 (own_x2 30 (st + (-7046029254386353131 : Int64)) * (-4658895280553007687 : Int64)) * (-7723592293110705685 : Int64))), .second] [(.int (31 : Int32)), (.long (own_x2 27 (own_x2 30 (st + (-7046029254386353131 : Int64)) * (-4658895280553007687 : Int64)) * (-7723592293110705685 : Int64))), (.long (own_x2 27 (own_x2 30 (st + (-7046029254386353131 : Int64)) * (-4658895280553007687 : Int64)) * (-7723592293110705685 : Int64)))]))
  refine Runs.by (fun _ hr => XS.lushr X4.here hx rfl (hb hby d3_43) rfl hr) ?_
  show Runs p e below _ (T4.setTop (mkF m 44 #[.val (.ref o0), .val (.long (own_x2 27 (own_x2 30 (st + (-7046029254386353131 : Int64)) * (-4658895280553007687 : Int64)) * (-7723592293110705685 : Int64))), .second] [(.long (((own_x2 27 (own_x2 30 (st + (-7046029254386353131 : Int64)) * (-4658895280553007687 : Int64)) * (-7723592293110705685 : Int64)).toUInt64 >>> ((31 : Int32) &&& 0x3f).toInt64.toUInt64).toInt64)), (.long (own_x2 27 (own_x2 30 (st + (-7046029254386353131 : Int64)) * (-4658895280553007687 : Int64)) * (-7723592293110705685 : Int64)))]))
  refine Runs.by (fun _ hr => XS.lxor X4.here hx rfl (hb hby d3_44) rfl hr) ?_
  show Runs p e below _ (T4.setTop (mkF m 45 #[.val (.ref o0), .val (.long (own_x2 27 (own_x2 30 (st + (-7046029254386353131 : Int64)) * (-4658895280553007687 : Int64)) * (-7723592293110705685 : Int64))), .second] [(.long (own_mix (st + (-7046029254386353131 : Int64))))]))
  refine Runs.ret X4 hx hrt hlk (Or.inr (Or.inl ⟨rfl, rfl, _, rfl⟩)) rfl (hb hby d3_45) (by decide) (by decide) ?_
  rw [e4]
  exact ⟨rfl, N2, K3, (E0.wr W2), Fw2⟩
theorem d5_0 : decode method_2_code 0 = .ok (.lload_n 0, 1) := by decide +kernel
theorem d5_1 : decode method_2_code 1 = .ok (.lstore_n 2, 1) := by decide +kernel
theorem d5_2 : decode method_2_code 2 = .ok (.lload_n 2, 1) := by decide +kernel
theorem d5_3 : decode method_2_code 3 = .ok (.ldc2_w 7, 3) := by decide +kernel
theorem d5_6 : decode method_2_code 6 = .ok (.lload_n 0, 1) := by decide +kernel
theorem d5_7 : decode method_2_code 7 = .ok (.lload_n 2, 1) := by decide +kernel
theorem d5_8 : decode method_2_code 8 = .ok (.lmul, 1) := by decide +kernel
theorem d5_9 : decode method_2_code 9 = .ok (.lsub, 1) := by decide +kernel
theorem d5_10 : decode method_2_code 10 = .ok (.lmul, 1) := by decide +kernel
theorem d5_11 : decode method_2_code 11 = .ok (.lstore_n 2, 1) := by decide +kernel
theorem d5_12 : decode method_2_code 12 = .ok (.lload_n 2, 1) := by decide +kernel
theorem d5_13 : decode method_2_code 13 = .ok (.ldc2_w 7, 3) := by decide +kernel
theorem d5_16 : decode method_2_code 16 = .ok (.lload_n 0, 1) := by decide +kernel
theorem d5_17 : decode method_2_code 17 = .ok (.lload_n 2, 1) := by decide +kernel
theorem d5_18 : decode method_2_code 18 = .ok (.lmul, 1) := by decide +kernel
theorem d5_19 : decode method_2_code 19 = .ok (.lsub, 1) := by decide +kernel
theorem d5_20 : decode method_2_code 20 = .ok (.lmul, 1) := by decide +kernel
theorem d5_21 : decode method_2_code 21 = .ok (.lstore_n 2, 1) := by decide +kernel
theorem d5_22 : decode method_2_code 22 = .ok (.lload_n 2, 1) := by decide +kernel
theorem d5_23 : decode method_2_code 23 = .ok (.ldc2_w 7, 3) := by decide +kernel
theorem d5_26 : decode method_2_code 26 = .ok (.lload_n 0, 1) := by decide +kernel
theorem d5_27 : decode method_2_code 27 = .ok (.lload_n 2, 1) := by decide +kernel
theorem d5_28 : decode method_2_code 28 = .ok (.lmul, 1) := by decide +kernel
theorem d5_29 : decode method_2_code 29 = .ok (.lsub, 1) := by decide +kernel
theorem d5_30 : decode method_2_code 30 = .ok (.lmul, 1) := by decide +kernel
theorem d5_31 : decode method_2_code 31 = .ok (.lstore_n 2, 1) := by decide +kernel
theorem d5_32 : decode method_2_code 32 = .ok (.lload_n 2, 1) := by decide +kernel
theorem d5_33 : decode method_2_code 33 = .ok (.ldc2_w 7, 3) := by decide +kernel
theorem d5_36 : decode method_2_code 36 = .ok (.lload_n 0, 1) := by decide +kernel
theorem d5_37 : decode method_2_code 37 = .ok (.lload_n 2, 1) := by decide +kernel
theorem d5_38 : decode method_2_code 38 = .ok (.lmul, 1) := by decide +kernel
theorem d5_39 : decode method_2_code 39 = .ok (.lsub, 1) := by decide +kernel
theorem d5_40 : decode method_2_code 40 = .ok (.lmul, 1) := by decide +kernel
theorem d5_41 : decode method_2_code 41 = .ok (.lstore_n 2, 1) := by decide +kernel
theorem d5_42 : decode method_2_code 42 = .ok (.lload_n 2, 1) := by decide +kernel
theorem d5_43 : decode method_2_code 43 = .ok (.ldc2_w 7, 3) := by decide +kernel
theorem d5_46 : decode method_2_code 46 = .ok (.lload_n 0, 1) := by decide +kernel
theorem d5_47 : decode method_2_code 47 = .ok (.lload_n 2, 1) := by decide +kernel
theorem d5_48 : decode method_2_code 48 = .ok (.lmul, 1) := by decide +kernel
theorem d5_49 : decode method_2_code 49 = .ok (.lsub, 1) := by decide +kernel
theorem d5_50 : decode method_2_code 50 = .ok (.lmul, 1) := by decide +kernel
theorem d5_51 : decode method_2_code 51 = .ok (.lstore_n 2, 1) := by decide +kernel
theorem d5_52 : decode method_2_code 52 = .ok (.lload_n 2, 1) := by decide +kernel
theorem d5_53 : decode method_2_code 53 = .ok (.lreturn, 1) := by decide +kernel
theorem ef_5_2 (m : MethodId) (q0 : Int64) : entryFrame m #[(.long q0)] 4 = mkF m 0 #[.val (.long q0), .second, .unset, .unset] [] := by first | (simp [entryFrame, mkF, argsToLocals, Value.category]; done) | rfl
theorem pn_com_example_dialtone_dialtone_workload_RandomStreamNextLongPinLaw : plainName "com/example/dialtone/dialtone/workload/RandomStreamNextLongPinLaw" = true := by first | (simp [plainName, overriddenIn]; done) | decide +kernel
def Q_rm5 (Z : State) (q0 : Int64)  (h0 : Heap) (n0 : Nat) (v : Option Value) (h : Heap) (L : List Loc) : Prop := v = some (.long (own_inv q0)) ∧ Fr n0 L ∧ h = h0
set_option maxRecDepth 65536 in
set_option maxHeartbeats 40000000 in
theorem rm5 (l : Launch) (Z : State) (a0 : Array Value) (hw : ∀ d ∈ tables_1, d.before a0 Z = true) (ws : List Jvm.Cond) (q0 : Int64)  (h0 : Heap) (n0 : Nat) (Z0 : n0 ≤ h0.size) :
    MetFree l (⟨"com/example/dialtone/dialtone/workload/RandomStreamNextLongPinLaw", "inv", "(J)J"⟩ : MethodName) (head1 (Jvm.Cond.code (⟨"com/example/dialtone/dialtone/workload/RandomStreamNextLongPinLaw", "inv", "(J)J"⟩ : MethodName) method_2_code 4 (some .long) :: ws) ({ frames := 0, cells := 0, slots := 0, locals := 0 } : Room)) (fun a U => a = #[(.long q0)] ∧ Z.Warmed39 U.vm ∧ U.heap = h0) (fun _ _ _ _ _ => True) (fun _ U o U' => ∃ v L, o = .returned v ∧ Q_rm5 Z q0 h0 n0 v U'.heap L ∧ FrameEnd U o U' L ({ frames := 0, cells := 0, slots := 0, locals := 0 } : Room).cells ({ frames := 0, cells := 0, slots := 0, locals := 0 } : Room).slots) := by
  refine MetFree.of_bodySF (plainFor_of_name pn_com_example_dialtone_dialtone_workload_RandomStreamNextLongPinLaw) hisR ?_
  intro p e s m args below meth c s₁ Bd hml0 hP hK
  obtain ⟨rfl, hZ, hh⟩ := hP
  have hx := Bd.exec
  have hby := Bd.bytes
  have hlk := BodyLoose.notSynchronized Bd
  have hrt := Bd.returns
  have hml : c.maxLocals = 4 := hml0
  have hown : s.vm.findClass "com/example/dialtone/dialtone/workload/RandomStreamNextLongPinLaw" = some m.cls := findClass_of_methodNamed Bd.named
  have hnm := (name_of_methodNamed Bd.named Bd.method).1
  have X0 : Stand p l e ({ frames := 0, cells := 0, slots := 0, locals := 0 } : Room) s m #[(.long q0)] below meth c s₁ [] 0 0 := Stand.of_body Bd
  have e0 : s₁.heap = h0 := by rw [← hh, Bd.state]; rfl
  have N0 := Fr.nil n0
  have K0 : Keep h0 h0 [] := Keep.refl h0 _
  show Runs p e below (QE s (Q_rm5 Z q0 h0 n0) ({ frames := 0, cells := 0, slots := 0, locals := 0 } : Room).cells ({ frames := 0, cells := 0, slots := 0, locals := 0 } : Room).slots) (s₁.setTop (entryFrame m #[(.long q0)] 4))
  rw [ef_5_2 m q0]
  show Runs p e below _ (s₁.setTop (mkF m 0 #[.val (.long q0), .second, .unset, .unset] []))
  refine Runs.by (fun _ hr => XS.lloadN X0.here hx rfl (hb hby d5_0) rfl  hr) ?_
  show Runs p e below _ (s₁.setTop (mkF m 1 #[.val (.long q0), .second, .unset, .unset] [(.long q0)]))
  refine Runs.by (fun _ hr => XS.lstoreN X0.here hx rfl (hb hby d5_1) rfl (l' := #[.val (.long q0), .second, .val (.long q0), .second]) rfl hr) ?_
  show Runs p e below _ (s₁.setTop (mkF m 2 #[.val (.long q0), .second, .val (.long q0), .second] []))
  refine Runs.by (fun _ hr => XS.lloadN X0.here hx rfl (hb hby d5_2) rfl  hr) ?_
  show Runs p e below _ (s₁.setTop (mkF m 3 #[.val (.long q0), .second, .val (.long q0), .second] [(.long q0)]))
  refine Runs.by (fun _ hr => X0.ldc2J hx hown (mvT hZ (hw _ (List.mem_of_getElem? (i := 28) rfl))) (g := (mkF m 3 #[.val (.long q0), .second, .val (.long q0), .second] [(.long q0)])) rfl (hb hby d5_3) hr) ?_
  show Runs p e below _ (s₁.setTop (mkF m 6 #[.val (.long q0), .second, .val (.long q0), .second] [(.long (2 : Int64)), (.long q0)]))
  refine Runs.by (fun _ hr => XS.lloadN X0.here hx rfl (hb hby d5_6) rfl  hr) ?_
  show Runs p e below _ (s₁.setTop (mkF m 7 #[.val (.long q0), .second, .val (.long q0), .second] [(.long q0), (.long (2 : Int64)), (.long q0)]))
  refine Runs.by (fun _ hr => XS.lloadN X0.here hx rfl (hb hby d5_7) rfl  hr) ?_
  show Runs p e below _ (s₁.setTop (mkF m 8 #[.val (.long q0), .second, .val (.long q0), .second] [(.long q0), (.long q0), (.long (2 : Int64)), (.long q0)]))
  refine Runs.by (fun _ hr => XS.lmul X0.here hx rfl (hb hby d5_8) rfl hr) ?_
  show Runs p e below _ (s₁.setTop (mkF m 9 #[.val (.long q0), .second, .val (.long q0), .second] [(.long (q0 * q0)), (.long (2 : Int64)), (.long q0)]))
  refine Runs.by (fun _ hr => XS.lsub X0.here hx rfl (hb hby d5_9) rfl hr) ?_
  show Runs p e below _ (s₁.setTop (mkF m 10 #[.val (.long q0), .second, .val (.long q0), .second] [(.long ((2 : Int64) - (q0 * q0))), (.long q0)]))
  refine Runs.by (fun _ hr => XS.lmul X0.here hx rfl (hb hby d5_10) rfl hr) ?_
  show Runs p e below _ (s₁.setTop (mkF m 11 #[.val (.long q0), .second, .val (.long q0), .second] [(.long (q0 * ((2 : Int64) - (q0 * q0))))]))
  refine Runs.by (fun _ hr => XS.lstoreN X0.here hx rfl (hb hby d5_11) rfl (l' := #[.val (.long q0), .second, .val (.long (q0 * ((2 : Int64) - (q0 * q0)))), .second]) rfl hr) ?_
  show Runs p e below _ (s₁.setTop (mkF m 12 #[.val (.long q0), .second, .val (.long (own_st q0 q0)), .second] []))
  refine Runs.by (fun _ hr => XS.lloadN X0.here hx rfl (hb hby d5_12) rfl  hr) ?_
  show Runs p e below _ (s₁.setTop (mkF m 13 #[.val (.long q0), .second, .val (.long (own_st q0 q0)), .second] [(.long (own_st q0 q0))]))
  refine Runs.by (fun _ hr => X0.ldc2J hx hown (mvT hZ (hw _ (List.mem_of_getElem? (i := 28) rfl))) (g := (mkF m 13 #[.val (.long q0), .second, .val (.long (own_st q0 q0)), .second] [(.long (own_st q0 q0))])) rfl (hb hby d5_13) hr) ?_
  show Runs p e below _ (s₁.setTop (mkF m 16 #[.val (.long q0), .second, .val (.long (own_st q0 q0)), .second] [(.long (2 : Int64)), (.long (own_st q0 q0))]))
  refine Runs.by (fun _ hr => XS.lloadN X0.here hx rfl (hb hby d5_16) rfl  hr) ?_
  show Runs p e below _ (s₁.setTop (mkF m 17 #[.val (.long q0), .second, .val (.long (own_st q0 q0)), .second] [(.long q0), (.long (2 : Int64)), (.long (own_st q0 q0))]))
  refine Runs.by (fun _ hr => XS.lloadN X0.here hx rfl (hb hby d5_17) rfl  hr) ?_
  show Runs p e below _ (s₁.setTop (mkF m 18 #[.val (.long q0), .second, .val (.long (own_st q0 q0)), .second] [(.long (own_st q0 q0)), (.long q0), (.long (2 : Int64)), (.long (own_st q0 q0))]))
  refine Runs.by (fun _ hr => XS.lmul X0.here hx rfl (hb hby d5_18) rfl hr) ?_
  show Runs p e below _ (s₁.setTop (mkF m 19 #[.val (.long q0), .second, .val (.long (own_st q0 q0)), .second] [(.long (q0 * (own_st q0 q0))), (.long (2 : Int64)), (.long (own_st q0 q0))]))
  refine Runs.by (fun _ hr => XS.lsub X0.here hx rfl (hb hby d5_19) rfl hr) ?_
  show Runs p e below _ (s₁.setTop (mkF m 20 #[.val (.long q0), .second, .val (.long (own_st q0 q0)), .second] [(.long ((2 : Int64) - (q0 * (own_st q0 q0)))), (.long (own_st q0 q0))]))
  refine Runs.by (fun _ hr => XS.lmul X0.here hx rfl (hb hby d5_20) rfl hr) ?_
  show Runs p e below _ (s₁.setTop (mkF m 21 #[.val (.long q0), .second, .val (.long (own_st q0 q0)), .second] [(.long ((own_st q0 q0) * ((2 : Int64) - (q0 * (own_st q0 q0)))))]))
  refine Runs.by (fun _ hr => XS.lstoreN X0.here hx rfl (hb hby d5_21) rfl (l' := #[.val (.long q0), .second, .val (.long ((own_st q0 q0) * ((2 : Int64) - (q0 * (own_st q0 q0))))), .second]) rfl hr) ?_
  show Runs p e below _ (s₁.setTop (mkF m 22 #[.val (.long q0), .second, .val (.long (own_st q0 (own_st q0 q0))), .second] []))
  refine Runs.by (fun _ hr => XS.lloadN X0.here hx rfl (hb hby d5_22) rfl  hr) ?_
  show Runs p e below _ (s₁.setTop (mkF m 23 #[.val (.long q0), .second, .val (.long (own_st q0 (own_st q0 q0))), .second] [(.long (own_st q0 (own_st q0 q0)))]))
  refine Runs.by (fun _ hr => X0.ldc2J hx hown (mvT hZ (hw _ (List.mem_of_getElem? (i := 28) rfl))) (g := (mkF m 23 #[.val (.long q0), .second, .val (.long (own_st q0 (own_st q0 q0))), .second] [(.long (own_st q0 (own_st q0 q0)))])) rfl (hb hby d5_23) hr) ?_
  show Runs p e below _ (s₁.setTop (mkF m 26 #[.val (.long q0), .second, .val (.long (own_st q0 (own_st q0 q0))), .second] [(.long (2 : Int64)), (.long (own_st q0 (own_st q0 q0)))]))
  refine Runs.by (fun _ hr => XS.lloadN X0.here hx rfl (hb hby d5_26) rfl  hr) ?_
  show Runs p e below _ (s₁.setTop (mkF m 27 #[.val (.long q0), .second, .val (.long (own_st q0 (own_st q0 q0))), .second] [(.long q0), (.long (2 : Int64)), (.long (own_st q0 (own_st q0 q0)))]))
  refine Runs.by (fun _ hr => XS.lloadN X0.here hx rfl (hb hby d5_27) rfl  hr) ?_
  show Runs p e below _ (s₁.setTop (mkF m 28 #[.val (.long q0), .second, .val (.long (own_st q0 (own_st q0 q0))), .second] [(.long (own_st q0 (own_st q0 q0))), (.long q0), (.long (2 : Int64)), (.long (own_st q0 (own_st q0 q0)))]))
  refine Runs.by (fun _ hr => XS.lmul X0.here hx rfl (hb hby d5_28) rfl hr) ?_
  show Runs p e below _ (s₁.setTop (mkF m 29 #[.val (.long q0), .second, .val (.long (own_st q0 (own_st q0 q0))), .second] [(.long (q0 * (own_st q0 (own_st q0 q0)))), (.long (2 : Int64)), (.long (own_st q0 (own_st q0 q0)))]))
  refine Runs.by (fun _ hr => XS.lsub X0.here hx rfl (hb hby d5_29) rfl hr) ?_
  show Runs p e below _ (s₁.setTop (mkF m 30 #[.val (.long q0), .second, .val (.long (own_st q0 (own_st q0 q0))), .second] [(.long ((2 : Int64) - (q0 * (own_st q0 (own_st q0 q0))))), (.long (own_st q0 (own_st q0 q0)))]))
  refine Runs.by (fun _ hr => XS.lmul X0.here hx rfl (hb hby d5_30) rfl hr) ?_
  show Runs p e below _ (s₁.setTop (mkF m 31 #[.val (.long q0), .second, .val (.long (own_st q0 (own_st q0 q0))), .second] [(.long ((own_st q0 (own_st q0 q0)) * ((2 : Int64) - (q0 * (own_st q0 (own_st q0 q0))))))]))
  refine Runs.by (fun _ hr => XS.lstoreN X0.here hx rfl (hb hby d5_31) rfl (l' := #[.val (.long q0), .second, .val (.long ((own_st q0 (own_st q0 q0)) * ((2 : Int64) - (q0 * (own_st q0 (own_st q0 q0)))))), .second]) rfl hr) ?_
  show Runs p e below _ (s₁.setTop (mkF m 32 #[.val (.long q0), .second, .val (.long (own_st q0 (own_st q0 (own_st q0 q0)))), .second] []))
  refine Runs.by (fun _ hr => XS.lloadN X0.here hx rfl (hb hby d5_32) rfl  hr) ?_
  show Runs p e below _ (s₁.setTop (mkF m 33 #[.val (.long q0), .second, .val (.long (own_st q0 (own_st q0 (own_st q0 q0)))), .second] [(.long (own_st q0 (own_st q0 (own_st q0 q0))))]))
  refine Runs.by (fun _ hr => X0.ldc2J hx hown (mvT hZ (hw _ (List.mem_of_getElem? (i := 28) rfl))) (g := (mkF m 33 #[.val (.long q0), .second, .val (.long (own_st q0 (own_st q0 (own_st q0 q0)))), .second] [(.long (own_st q0 (own_st q0 (own_st q0 q0))))])) rfl (hb hby d5_33) hr) ?_
  show Runs p e below _ (s₁.setTop (mkF m 36 #[.val (.long q0), .second, .val (.long (own_st q0 (own_st q0 (own_st q0 q0)))), .second] [(.long (2 : Int64)), (.long (own_st q0 (own_st q0 (own_st q0 q0))))]))
  refine Runs.by (fun _ hr => XS.lloadN X0.here hx rfl (hb hby d5_36) rfl  hr) ?_
  show Runs p e below _ (s₁.setTop (mkF m 37 #[.val (.long q0), .second, .val (.long (own_st q0 (own_st q0 (own_st q0 q0)))), .second] [(.long q0), (.long (2 : Int64)), (.long (own_st q0 (own_st q0 (own_st q0 q0))))]))
  refine Runs.by (fun _ hr => XS.lloadN X0.here hx rfl (hb hby d5_37) rfl  hr) ?_
  show Runs p e below _ (s₁.setTop (mkF m 38 #[.val (.long q0), .second, .val (.long (own_st q0 (own_st q0 (own_st q0 q0)))), .second] [(.long (own_st q0 (own_st q0 (own_st q0 q0)))), (.long q0), (.long (2 : Int64)), (.long (own_st q0 (own_st q0 (own_st q0 q0))))]))
  refine Runs.by (fun _ hr => XS.lmul X0.here hx rfl (hb hby d5_38) rfl hr) ?_
  show Runs p e below _ (s₁.setTop (mkF m 39 #[.val (.long q0), .second, .val (.long (own_st q0 (own_st q0 (own_st q0 q0)))), .second] [(.long (q0 * (own_st q0 (own_st q0 (own_st q0 q0))))), (.long (2 : Int64)), (.long (own_st q0 (own_st q0 (own_st q0 q0))))]))
  refine Runs.by (fun _ hr => XS.lsub X0.here hx rfl (hb hby d5_39) rfl hr) ?_
  show Runs p e below _ (s₁.setTop (mkF m 40 #[.val (.long q0), .second, .val (.long (own_st q0 (own_st q0 (own_st q0 q0)))), .second] [(.long ((2 : Int64) - (q0 * (own_st q0 (own_st q0 (own_st q0 q0)))))), (.long (own_st q0 (own_st q0 (own_st q0 q0))))]))
  refine Runs.by (fun _ hr => XS.lmul X0.here hx rfl (hb hby d5_40) rfl hr) ?_
  show Runs p e below _ (s₁.setTop (mkF m 41 #[.val (.long q0), .second, .val (.long (own_st q0 (own_st q0 (own_st q0 q0)))), .second] [(.long ((own_st q0 (own_st q0 (own_st q0 q0))) * ((2 : Int64) - (q0 * (own_st q0 (own_st q0 (own_st q0 q0)))))))]))
  refine Runs.by (fun _ hr => XS.lstoreN X0.here hx rfl (hb hby d5_41) rfl (l' := #[.val (.long q0), .second, .val (.long ((own_st q0 (own_st q0 (own_st q0 q0))) * ((2 : Int64) - (q0 * (own_st q0 (own_st q0 (own_st q0 q0))))))), .second]) rfl hr) ?_
  show Runs p e below _ (s₁.setTop (mkF m 42 #[.val (.long q0), .second, .val (.long (own_st q0 (own_st q0 (own_st q0 (own_st q0 q0))))), .second] []))
  refine Runs.by (fun _ hr => XS.lloadN X0.here hx rfl (hb hby d5_42) rfl  hr) ?_
  show Runs p e below _ (s₁.setTop (mkF m 43 #[.val (.long q0), .second, .val (.long (own_st q0 (own_st q0 (own_st q0 (own_st q0 q0))))), .second] [(.long (own_st q0 (own_st q0 (own_st q0 (own_st q0 q0)))))]))
  refine Runs.by (fun _ hr => X0.ldc2J hx hown (mvT hZ (hw _ (List.mem_of_getElem? (i := 28) rfl))) (g := (mkF m 43 #[.val (.long q0), .second, .val (.long (own_st q0 (own_st q0 (own_st q0 (own_st q0 q0))))), .second] [(.long (own_st q0 (own_st q0 (own_st q0 (own_st q0 q0)))))])) rfl (hb hby d5_43) hr) ?_
  show Runs p e below _ (s₁.setTop (mkF m 46 #[.val (.long q0), .second, .val (.long (own_st q0 (own_st q0 (own_st q0 (own_st q0 q0))))), .second] [(.long (2 : Int64)), (.long (own_st q0 (own_st q0 (own_st q0 (own_st q0 q0)))))]))
  refine Runs.by (fun _ hr => XS.lloadN X0.here hx rfl (hb hby d5_46) rfl  hr) ?_
  show Runs p e below _ (s₁.setTop (mkF m 47 #[.val (.long q0), .second, .val (.long (own_st q0 (own_st q0 (own_st q0 (own_st q0 q0))))), .second] [(.long q0), (.long (2 : Int64)), (.long (own_st q0 (own_st q0 (own_st q0 (own_st q0 q0)))))]))
  refine Runs.by (fun _ hr => XS.lloadN X0.here hx rfl (hb hby d5_47) rfl  hr) ?_
  show Runs p e below _ (s₁.setTop (mkF m 48 #[.val (.long q0), .second, .val (.long (own_st q0 (own_st q0 (own_st q0 (own_st q0 q0))))), .second] [(.long (own_st q0 (own_st q0 (own_st q0 (own_st q0 q0))))), (.long q0), (.long (2 : Int64)), (.long (own_st q0 (own_st q0 (own_st q0 (own_st q0 q0)))))]))
  refine Runs.by (fun _ hr => XS.lmul X0.here hx rfl (hb hby d5_48) rfl hr) ?_
  show Runs p e below _ (s₁.setTop (mkF m 49 #[.val (.long q0), .second, .val (.long (own_st q0 (own_st q0 (own_st q0 (own_st q0 q0))))), .second] [(.long (q0 * (own_st q0 (own_st q0 (own_st q0 (own_st q0 q0)))))), (.long (2 : Int64)), (.long (own_st q0 (own_st q0 (own_st q0 (own_st q0 q0)))))]))
  refine Runs.by (fun _ hr => XS.lsub X0.here hx rfl (hb hby d5_49) rfl hr) ?_
  show Runs p e below _ (s₁.setTop (mkF m 50 #[.val (.long q0), .second, .val (.long (own_st q0 (own_st q0 (own_st q0 (own_st q0 q0))))), .second] [(.long ((2 : Int64) - (q0 * (own_st q0 (own_st q0 (own_st q0 (own_st q0 q0))))))), (.long (own_st q0 (own_st q0 (own_st q0 (own_st q0 q0)))))]))
  refine Runs.by (fun _ hr => XS.lmul X0.here hx rfl (hb hby d5_50) rfl hr) ?_
  show Runs p e below _ (s₁.setTop (mkF m 51 #[.val (.long q0), .second, .val (.long (own_st q0 (own_st q0 (own_st q0 (own_st q0 q0))))), .second] [(.long ((own_st q0 (own_st q0 (own_st q0 (own_st q0 q0)))) * ((2 : Int64) - (q0 * (own_st q0 (own_st q0 (own_st q0 (own_st q0 q0))))))))]))
  refine Runs.by (fun _ hr => XS.lstoreN X0.here hx rfl (hb hby d5_51) rfl (l' := #[.val (.long q0), .second, .val (.long ((own_st q0 (own_st q0 (own_st q0 (own_st q0 q0)))) * ((2 : Int64) - (q0 * (own_st q0 (own_st q0 (own_st q0 (own_st q0 q0)))))))), .second]) rfl hr) ?_
  show Runs p e below _ (s₁.setTop (mkF m 52 #[.val (.long q0), .second, .val (.long (own_st q0 (own_st q0 (own_st q0 (own_st q0 (own_st q0 q0)))))), .second] []))
  refine Runs.by (fun _ hr => XS.lloadN X0.here hx rfl (hb hby d5_52) rfl  hr) ?_
  show Runs p e below _ (s₁.setTop (mkF m 53 #[.val (.long q0), .second, .val (.long (own_st q0 (own_st q0 (own_st q0 (own_st q0 (own_st q0 q0)))))), .second] [(.long (own_st q0 (own_st q0 (own_st q0 (own_st q0 (own_st q0 q0))))))]))
  refine Runs.ret X0 hx hrt hlk (Or.inr (Or.inl ⟨rfl, rfl, _, rfl⟩)) rfl (hb hby d5_53) (by decide) (by decide) ?_
  rw [e0]
  exact ⟨rfl, N0, rfl⟩
theorem d4_0 : decode method_3_code 0 = .ok (.lload_n 0, 1) := by decide +kernel
theorem d4_1 : decode method_3_code 1 = .ok (.lload_n 0, 1) := by decide +kernel
theorem d4_2 : decode method_3_code 2 = .ok (.bipush 31, 2) := by decide +kernel
theorem d4_4 : decode method_3_code 4 = .ok (.lushr, 1) := by decide +kernel
theorem d4_5 : decode method_3_code 5 = .ok (.lxor, 1) := by decide +kernel
theorem d4_6 : decode method_3_code 6 = .ok (.lload_n 0, 1) := by decide +kernel
theorem d4_7 : decode method_3_code 7 = .ok (.bipush 62, 2) := by decide +kernel
theorem d4_9 : decode method_3_code 9 = .ok (.lushr, 1) := by decide +kernel
theorem d4_10 : decode method_3_code 10 = .ok (.lxor, 1) := by decide +kernel
theorem d4_11 : decode method_3_code 11 = .ok (.lstore_n 2, 1) := by decide +kernel
theorem d4_12 : decode method_3_code 12 = .ok (.lload_n 2, 1) := by decide +kernel
theorem d4_13 : decode method_3_code 13 = .ok (.ldc2_w 9, 3) := by decide +kernel
theorem d4_16 : decode method_3_code 16 = .ok (.invokestatic 11, 3) := by decide +kernel
theorem d4_19 : decode method_3_code 19 = .ok (.lmul, 1) := by decide +kernel
theorem d4_20 : decode method_3_code 20 = .ok (.lstore_n 2, 1) := by decide +kernel
theorem d4_21 : decode method_3_code 21 = .ok (.lload_n 2, 1) := by decide +kernel
theorem d4_22 : decode method_3_code 22 = .ok (.lload_n 2, 1) := by decide +kernel
theorem d4_23 : decode method_3_code 23 = .ok (.bipush 27, 2) := by decide +kernel
theorem d4_25 : decode method_3_code 25 = .ok (.lushr, 1) := by decide +kernel
theorem d4_26 : decode method_3_code 26 = .ok (.lxor, 1) := by decide +kernel
theorem d4_27 : decode method_3_code 27 = .ok (.lload_n 2, 1) := by decide +kernel
theorem d4_28 : decode method_3_code 28 = .ok (.bipush 54, 2) := by decide +kernel
theorem d4_30 : decode method_3_code 30 = .ok (.lushr, 1) := by decide +kernel
theorem d4_31 : decode method_3_code 31 = .ok (.lxor, 1) := by decide +kernel
theorem d4_32 : decode method_3_code 32 = .ok (.lstore_n 2, 1) := by decide +kernel
theorem d4_33 : decode method_3_code 33 = .ok (.lload_n 2, 1) := by decide +kernel
theorem d4_34 : decode method_3_code 34 = .ok (.ldc2_w 17, 3) := by decide +kernel
theorem d4_37 : decode method_3_code 37 = .ok (.invokestatic 11, 3) := by decide +kernel
theorem d4_40 : decode method_3_code 40 = .ok (.lmul, 1) := by decide +kernel
theorem d4_41 : decode method_3_code 41 = .ok (.lstore_n 2, 1) := by decide +kernel
theorem d4_42 : decode method_3_code 42 = .ok (.lload_n 2, 1) := by decide +kernel
theorem d4_43 : decode method_3_code 43 = .ok (.lload_n 2, 1) := by decide +kernel
theorem d4_44 : decode method_3_code 44 = .ok (.bipush 30, 2) := by decide +kernel
theorem d4_46 : decode method_3_code 46 = .ok (.lushr, 1) := by decide +kernel
theorem d4_47 : decode method_3_code 47 = .ok (.lxor, 1) := by decide +kernel
theorem d4_48 : decode method_3_code 48 = .ok (.lload_n 2, 1) := by decide +kernel
theorem d4_49 : decode method_3_code 49 = .ok (.bipush 60, 2) := by decide +kernel
theorem d4_51 : decode method_3_code 51 = .ok (.lushr, 1) := by decide +kernel
theorem d4_52 : decode method_3_code 52 = .ok (.lxor, 1) := by decide +kernel
theorem d4_53 : decode method_3_code 53 = .ok (.lstore_n 2, 1) := by decide +kernel
theorem d4_54 : decode method_3_code 54 = .ok (.lload_n 2, 1) := by decide +kernel
theorem d4_55 : decode method_3_code 55 = .ok (.lreturn, 1) := by decide +kernel
theorem ef_4_3 (m : MethodId) (q0 : Int64) : entryFrame m #[(.long q0)] 4 = mkF m 0 #[.val (.long q0), .second, .unset, .unset] [] := by first | (simp [entryFrame, mkF, argsToLocals, Value.category]; done) | rfl
def Q_rm4 (Z : State) (q0 : Int64)  (h0 : Heap) (n0 : Nat) (v : Option Value) (h : Heap) (L : List Loc) : Prop := v = some (.long (own_unmix q0)) ∧ Fr n0 L ∧ h = h0
theorem pd_0 : parseMethodDescriptor "(J)J" = some ⟨[.long], some .long⟩ := by decide +kernel
set_option maxRecDepth 65536 in
set_option maxHeartbeats 40000000 in
theorem rm4 (l : Launch) (Z : State) (a0 : Array Value) (hw : ∀ d ∈ tables_1, d.before a0 Z = true) (ws : List Jvm.Cond) (q0 : Int64)  (h0 : Heap) (n0 : Nat) (Z0 : n0 ≤ h0.size) :
    MetFree l (⟨"com/example/dialtone/dialtone/workload/RandomStreamNextLongPinLaw", "unmix", "(J)J"⟩ : MethodName) (head1 (Jvm.Cond.code (⟨"com/example/dialtone/dialtone/workload/RandomStreamNextLongPinLaw", "unmix", "(J)J"⟩ : MethodName) method_3_code 4 (some .long) :: ws) ({ frames := 1, cells := 0, slots := 0, locals := 32 } : Room)) (fun a U => a = #[(.long q0)] ∧ Z.Warmed39 U.vm ∧ U.heap = h0) (fun _ _ _ _ _ => True) (fun _ U o U' => ∃ v L, o = .returned v ∧ Q_rm4 Z q0 h0 n0 v U'.heap L ∧ FrameEnd U o U' L ({ frames := 1, cells := 0, slots := 0, locals := 32 } : Room).cells ({ frames := 1, cells := 0, slots := 0, locals := 32 } : Room).slots) := by
  refine MetFree.of_bodySF (plainFor_of_name pn_com_example_dialtone_dialtone_workload_RandomStreamNextLongPinLaw) hisR ?_
  intro p e s m args below meth c s₁ Bd hml0 hP hK
  obtain ⟨rfl, hZ, hh⟩ := hP
  have hx := Bd.exec
  have hby := Bd.bytes
  have hlk := BodyLoose.notSynchronized Bd
  have hrt := Bd.returns
  have hml : c.maxLocals = 4 := hml0
  have hown : s.vm.findClass "com/example/dialtone/dialtone/workload/RandomStreamNextLongPinLaw" = some m.cls := findClass_of_methodNamed Bd.named
  have hnm := (name_of_methodNamed Bd.named Bd.method).1
  have X0 : Stand p l e ({ frames := 1, cells := 0, slots := 0, locals := 32 } : Room) s m #[(.long q0)] below meth c s₁ [] 0 0 := Stand.of_body Bd
  have e0 : s₁.heap = h0 := by rw [← hh, Bd.state]; rfl
  have N0 := Fr.nil n0
  have K0 : Keep h0 h0 [] := Keep.refl h0 _
  show Runs p e below (QE s (Q_rm4 Z q0 h0 n0) ({ frames := 1, cells := 0, slots := 0, locals := 32 } : Room).cells ({ frames := 1, cells := 0, slots := 0, locals := 32 } : Room).slots) (s₁.setTop (entryFrame m #[(.long q0)] 4))
  rw [ef_4_3 m q0]
  show Runs p e below _ (s₁.setTop (mkF m 0 #[.val (.long q0), .second, .unset, .unset] []))
  refine Runs.by (fun _ hr => XS.lloadN X0.here hx rfl (hb hby d4_0) rfl  hr) ?_
  show Runs p e below _ (s₁.setTop (mkF m 1 #[.val (.long q0), .second, .unset, .unset] [(.long q0)]))
  refine Runs.by (fun _ hr => XS.lloadN X0.here hx rfl (hb hby d4_1) rfl  hr) ?_
  show Runs p e below _ (s₁.setTop (mkF m 2 #[.val (.long q0), .second, .unset, .unset] [(.long q0), (.long q0)]))
  refine Runs.by (fun _ hr => XS.bipush X0.here hx rfl (hb hby d4_2) hr) ?_
  show Runs p e below _ (s₁.setTop (mkF m 4 #[.val (.long q0), .second, .unset, .unset] [(.int (31 : Int32)), (.long q0), (.long q0)]))
  refine Runs.by (fun _ hr => XS.lushr X0.here hx rfl (hb hby d4_4) rfl hr) ?_
  show Runs p e below _ (s₁.setTop (mkF m 5 #[.val (.long q0), .second, .unset, .unset] [(.long ((q0.toUInt64 >>> ((31 : Int32) &&& 0x3f).toInt64.toUInt64).toInt64)), (.long q0)]))
  refine Runs.by (fun _ hr => XS.lxor X0.here hx rfl (hb hby d4_5) rfl hr) ?_
  show Runs p e below _ (s₁.setTop (mkF m 6 #[.val (.long q0), .second, .unset, .unset] [(.long (q0 ^^^ ((q0.toUInt64 >>> ((31 : Int32) &&& 0x3f).toInt64.toUInt64).toInt64)))]))
  refine Runs.by (fun _ hr => XS.lloadN X0.here hx rfl (hb hby d4_6) rfl  hr) ?_
  show Runs p e below _ (s₁.setTop (mkF m 7 #[.val (.long q0), .second, .unset, .unset] [(.long q0), (.long (q0 ^^^ ((q0.toUInt64 >>> ((31 : Int32) &&& 0x3f).toInt64.toUInt64).toInt64)))]))
  refine Runs.by (fun _ hr => XS.bipush X0.here hx rfl (hb hby d4_7) hr) ?_
  show Runs p e below _ (s₁.setTop (mkF m 9 #[.val (.long q0), .second, .unset, .unset] [(.int (62 : Int32)), (.long q0), (.long (q0 ^^^ ((q0.toUInt64 >>> ((31 : Int32) &&& 0x3f).toInt64.toUInt64).toInt64)))]))
  refine Runs.by (fun _ hr => XS.lushr X0.here hx rfl (hb hby d4_9) rfl hr) ?_
  show Runs p e below _ (s₁.setTop (mkF m 10 #[.val (.long q0), .second, .unset, .unset] [(.long ((q0.toUInt64 >>> ((62 : Int32) &&& 0x3f).toInt64.toUInt64).toInt64)), (.long (q0 ^^^ ((q0.toUInt64 >>> ((31 : Int32) &&& 0x3f).toInt64.toUInt64).toInt64)))]))
  refine Runs.by (fun _ hr => XS.lxor X0.here hx rfl (hb hby d4_10) rfl hr) ?_
  show Runs p e below _ (s₁.setTop (mkF m 11 #[.val (.long q0), .second, .unset, .unset] [(.long ((q0 ^^^ ((q0.toUInt64 >>> ((31 : Int32) &&& 0x3f).toInt64.toUInt64).toInt64)) ^^^ ((q0.toUInt64 >>> ((62 : Int32) &&& 0x3f).toInt64.toUInt64).toInt64)))]))
  refine Runs.by (fun _ hr => XS.lstoreN X0.here hx rfl (hb hby d4_11) rfl (l' := #[.val (.long q0), .second, .val (.long ((q0 ^^^ ((q0.toUInt64 >>> ((31 : Int32) &&& 0x3f).toInt64.toUInt64).toInt64)) ^^^ ((q0.toUInt64 >>> ((62 : Int32) &&& 0x3f).toInt64.toUInt64).toInt64))), .second]) rfl hr) ?_
  show Runs p e below _ (s₁.setTop (mkF m 12 #[.val (.long q0), .second, .val (.long (own_x3 31 62 q0)), .second] []))
  refine Runs.by (fun _ hr => XS.lloadN X0.here hx rfl (hb hby d4_12) rfl  hr) ?_
  show Runs p e below _ (s₁.setTop (mkF m 13 #[.val (.long q0), .second, .val (.long (own_x3 31 62 q0)), .second] [(.long (own_x3 31 62 q0))]))
  refine Runs.by (fun _ hr => X0.ldc2J hx hown (mvT hZ (hw _ (List.mem_of_getElem? (i := 24) rfl))) (g := (mkF m 13 #[.val (.long q0), .second, .val (.long (own_x3 31 62 q0)), .second] [(.long (own_x3 31 62 q0))])) rfl (hb hby d4_13) hr) ?_
  show Runs p e below _ (s₁.setTop (mkF m 16 #[.val (.long q0), .second, .val (.long (own_x3 31 62 q0)), .second] [(.long (-7723592293110705685 : Int64)), (.long (own_x3 31 62 q0))]))
  obtain ⟨_, _, ⟨T1, L1, k1, n1⟩, -, X1, ⟨Lc1, hQ1, l1, y1, z1⟩, st1⟩ := Jvm.LawKit.callS X0 hx (y := (⟨"com/example/dialtone/dialtone/workload/RandomStreamNextLongPinLaw", "inv", "(J)J"⟩ : MethodName)) hown (mvT hZ (hw _ (List.mem_of_getElem? (i := 25) rfl))) (mvT hZ (hw _ (List.mem_of_getElem? (i := 26) rfl))) (mvT hZ (hw _ (List.mem_of_getElem? (i := 22) rfl))) (mvT hZ (hw _ (List.mem_of_getElem? (i := 27) rfl))) (by decide) (backOf (W := 2) (rm5 l Z a0 hw [] (-7723592293110705685 : Int64)  h0 n0 (Nat.le_trans Z0 K0.1) ) hZ (hw _ (List.mem_of_getElem? (i := 27) rfl)) (hw _ (List.mem_of_getElem? (i := 22) rfl)) (by decide) (by decide)) (g := (mkF m 16 #[.val (.long q0), .second, .val (.long (own_x3 31 62 q0)), .second] [(.long (-7723592293110705685 : Int64)), (.long (own_x3 31 62 q0))])) rfl (by rw [hml]; rfl) (argsL := [(.long (-7723592293110705685 : Int64))]) (rest := [(.long (own_x3 31 62 q0))]) (lenOf pd_0 rfl) rfl (by show 2 * 0 + _ ≤ _; exact Nat.le_of_eq rfl) (hb hby d4_16) (fun _ _ => ⟨rfl, e0, (by decide : 0 + 0 ≤ _), (by decide : 0 + 0 ≤ _)⟩)
  dsimp only [Pt.U, Pt.locs, Pt.cells, Pt.slots] at X1 l1 y1 z1 st1 hQ1
  subst l1 y1 z1
  obtain ⟨rfl, Nq1, eq1⟩ := hQ1
  have N1 := Fr.app N0 Nq1
  refine Runs.by (fun t hr => st1 t hr) ?_
  show Runs p e below _ (T1.setTop (mkF m 19 #[.val (.long q0), .second, .val (.long (own_x3 31 62 q0)), .second] [(.long (own_inv (-7723592293110705685 : Int64))), (.long (own_x3 31 62 q0))]))
  refine Runs.by (fun _ hr => XS.lmul X1.here hx rfl (hb hby d4_19) rfl hr) ?_
  show Runs p e below _ (T1.setTop (mkF m 20 #[.val (.long q0), .second, .val (.long (own_x3 31 62 q0)), .second] [(.long ((own_x3 31 62 q0) * (own_inv (-7723592293110705685 : Int64))))]))
  refine Runs.by (fun _ hr => XS.lstoreN X1.here hx rfl (hb hby d4_20) rfl (l' := #[.val (.long q0), .second, .val (.long ((own_x3 31 62 q0) * (own_inv (-7723592293110705685 : Int64)))), .second]) rfl hr) ?_
  show Runs p e below _ (T1.setTop (mkF m 21 #[.val (.long q0), .second, .val (.long ((own_x3 31 62 q0) * own_inv (-7723592293110705685 : Int64))), .second] []))
  refine Runs.by (fun _ hr => XS.lloadN X1.here hx rfl (hb hby d4_21) rfl  hr) ?_
  show Runs p e below _ (T1.setTop (mkF m 22 #[.val (.long q0), .second, .val (.long ((own_x3 31 62 q0) * own_inv (-7723592293110705685 : Int64))), .second] [(.long ((own_x3 31 62 q0) * own_inv (-7723592293110705685 : Int64)))]))
  refine Runs.by (fun _ hr => XS.lloadN X1.here hx rfl (hb hby d4_22) rfl  hr) ?_
  show Runs p e below _ (T1.setTop (mkF m 23 #[.val (.long q0), .second, .val (.long ((own_x3 31 62 q0) * own_inv (-7723592293110705685 : Int64))), .second] [(.long ((own_x3 31 62 q0) * own_inv (-7723592293110705685 : Int64))), (.long ((own_x3 31 62 q0) * own_inv (-7723592293110705685 : Int64)))]))
  refine Runs.by (fun _ hr => XS.bipush X1.here hx rfl (hb hby d4_23) hr) ?_
  show Runs p e below _ (T1.setTop (mkF m 25 #[.val (.long q0), .second, .val (.long ((own_x3 31 62 q0) * own_inv (-7723592293110705685 : Int64))), .second] [(.int (27 : Int32)), (.long ((own_x3 31 62 q0) * own_inv (-7723592293110705685 : Int64))), (.long ((own_x3 31 62 q0) * own_inv (-7723592293110705685 : Int64)))]))
  refine Runs.by (fun _ hr => XS.lushr X1.here hx rfl (hb hby d4_25) rfl hr) ?_
  show Runs p e below _ (T1.setTop (mkF m 26 #[.val (.long q0), .second, .val (.long ((own_x3 31 62 q0) * own_inv (-7723592293110705685 : Int64))), .second] [(.long ((((own_x3 31 62 q0) * own_inv (-7723592293110705685 : Int64)).toUInt64 >>> ((27 : Int32) &&& 0x3f).toInt64.toUInt64).toInt64)), (.long ((own_x3 31 62 q0) * own_inv (-7723592293110705685 : Int64)))]))
  refine Runs.by (fun _ hr => XS.lxor X1.here hx rfl (hb hby d4_26) rfl hr) ?_
  show Runs p e below _ (T1.setTop (mkF m 27 #[.val (.long q0), .second, .val (.long ((own_x3 31 62 q0) * own_inv (-7723592293110705685 : Int64))), .second] [(.long (((own_x3 31 62 q0) * own_inv (-7723592293110705685 : Int64)) ^^^ ((((own_x3 31 62 q0) * own_inv (-7723592293110705685 : Int64)).toUInt64 >>> ((27 : Int32) &&& 0x3f).toInt64.toUInt64).toInt64)))]))
  refine Runs.by (fun _ hr => XS.lloadN X1.here hx rfl (hb hby d4_27) rfl  hr) ?_
  show Runs p e below _ (T1.setTop (mkF m 28 #[.val (.long q0), .second, .val (.long ((own_x3 31 62 q0) * own_inv (-7723592293110705685 : Int64))), .second] [(.long ((own_x3 31 62 q0) * own_inv (-7723592293110705685 : Int64))), (.long (((own_x3 31 62 q0) * own_inv (-7723592293110705685 : Int64)) ^^^ ((((own_x3 31 62 q0) * own_inv (-7723592293110705685 : Int64)).toUInt64 >>> ((27 : Int32) &&& 0x3f).toInt64.toUInt64).toInt64)))]))
  refine Runs.by (fun _ hr => XS.bipush X1.here hx rfl (hb hby d4_28) hr) ?_
  show Runs p e below _ (T1.setTop (mkF m 30 #[.val (.long q0), .second, .val (.long ((own_x3 31 62 q0) * own_inv (-7723592293110705685 : Int64))), .second] [(.int (54 : Int32)), (.long ((own_x3 31 62 q0) * own_inv (-7723592293110705685 : Int64))), (.long (((own_x3 31 62 q0) * own_inv (-7723592293110705685 : Int64)) ^^^ ((((own_x3 31 62 q0) * own_inv (-7723592293110705685 : Int64)).toUInt64 >>> ((27 : Int32) &&& 0x3f).toInt64.toUInt64).toInt64)))]))
  refine Runs.by (fun _ hr => XS.lushr X1.here hx rfl (hb hby d4_30) rfl hr) ?_
  show Runs p e below _ (T1.setTop (mkF m 31 #[.val (.long q0), .second, .val (.long ((own_x3 31 62 q0) * own_inv (-7723592293110705685 : Int64))), .second] [(.long ((((own_x3 31 62 q0) * own_inv (-7723592293110705685 : Int64)).toUInt64 >>> ((54 : Int32) &&& 0x3f).toInt64.toUInt64).toInt64)), (.long (((own_x3 31 62 q0) * own_inv (-7723592293110705685 : Int64)) ^^^ ((((own_x3 31 62 q0) * own_inv (-7723592293110705685 : Int64)).toUInt64 >>> ((27 : Int32) &&& 0x3f).toInt64.toUInt64).toInt64)))]))
  refine Runs.by (fun _ hr => XS.lxor X1.here hx rfl (hb hby d4_31) rfl hr) ?_
  show Runs p e below _ (T1.setTop (mkF m 32 #[.val (.long q0), .second, .val (.long ((own_x3 31 62 q0) * own_inv (-7723592293110705685 : Int64))), .second] [(.long ((((own_x3 31 62 q0) * own_inv (-7723592293110705685 : Int64)) ^^^ ((((own_x3 31 62 q0) * own_inv (-7723592293110705685 : Int64)).toUInt64 >>> ((27 : Int32) &&& 0x3f).toInt64.toUInt64).toInt64)) ^^^ ((((own_x3 31 62 q0) * own_inv (-7723592293110705685 : Int64)).toUInt64 >>> ((54 : Int32) &&& 0x3f).toInt64.toUInt64).toInt64)))]))
  refine Runs.by (fun _ hr => XS.lstoreN X1.here hx rfl (hb hby d4_32) rfl (l' := #[.val (.long q0), .second, .val (.long ((((own_x3 31 62 q0) * own_inv (-7723592293110705685 : Int64)) ^^^ ((((own_x3 31 62 q0) * own_inv (-7723592293110705685 : Int64)).toUInt64 >>> ((27 : Int32) &&& 0x3f).toInt64.toUInt64).toInt64)) ^^^ ((((own_x3 31 62 q0) * own_inv (-7723592293110705685 : Int64)).toUInt64 >>> ((54 : Int32) &&& 0x3f).toInt64.toUInt64).toInt64))), .second]) rfl hr) ?_
  show Runs p e below _ (T1.setTop (mkF m 33 #[.val (.long q0), .second, .val (.long (own_x3 27 54 ((own_x3 31 62 q0) * own_inv (-7723592293110705685 : Int64)))), .second] []))
  refine Runs.by (fun _ hr => XS.lloadN X1.here hx rfl (hb hby d4_33) rfl  hr) ?_
  show Runs p e below _ (T1.setTop (mkF m 34 #[.val (.long q0), .second, .val (.long (own_x3 27 54 ((own_x3 31 62 q0) * own_inv (-7723592293110705685 : Int64)))), .second] [(.long (own_x3 27 54 ((own_x3 31 62 q0) * own_inv (-7723592293110705685 : Int64))))]))
  refine Runs.by (fun _ hr => X1.ldc2J hx hown (mvT hZ (hw _ (List.mem_of_getElem? (i := 29) rfl))) (g := (mkF m 34 #[.val (.long q0), .second, .val (.long (own_x3 27 54 ((own_x3 31 62 q0) * own_inv (-7723592293110705685 : Int64)))), .second] [(.long (own_x3 27 54 ((own_x3 31 62 q0) * own_inv (-7723592293110705685 : Int64))))])) rfl (hb hby d4_34) hr) ?_
  show Runs p e below _ (T1.setTop (mkF m 37 #[.val (.long q0), .second, .val (.long (own_x3 27 54 ((own_x3 31 62 q0) * own_inv (-7723592293110705685 : Int64)))), .second] [(.long (-4658895280553007687 : Int64)), (.long (own_x3 27 54 ((own_x3 31 62 q0) * own_inv (-7723592293110705685 : Int64))))]))
  obtain ⟨_, _, ⟨T2, L2, k2, n2⟩, -, X2, ⟨Lc2, hQ2, l2, y2, z2⟩, st2⟩ := Jvm.LawKit.callS X1 hx (y := (⟨"com/example/dialtone/dialtone/workload/RandomStreamNextLongPinLaw", "inv", "(J)J"⟩ : MethodName)) hown (mvT hZ (hw _ (List.mem_of_getElem? (i := 25) rfl))) (mvT hZ (hw _ (List.mem_of_getElem? (i := 26) rfl))) (mvT hZ (hw _ (List.mem_of_getElem? (i := 22) rfl))) (mvT hZ (hw _ (List.mem_of_getElem? (i := 27) rfl))) (by decide) (backOf (W := 2) (rm5 l Z a0 hw [] (-4658895280553007687 : Int64)  h0 n0 (Nat.le_trans Z0 K0.1) ) hZ (hw _ (List.mem_of_getElem? (i := 27) rfl)) (hw _ (List.mem_of_getElem? (i := 22) rfl)) (by decide) (by decide)) (g := (mkF m 37 #[.val (.long q0), .second, .val (.long (own_x3 27 54 ((own_x3 31 62 q0) * own_inv (-7723592293110705685 : Int64)))), .second] [(.long (-4658895280553007687 : Int64)), (.long (own_x3 27 54 ((own_x3 31 62 q0) * own_inv (-7723592293110705685 : Int64))))])) rfl (by rw [hml]; rfl) (argsL := [(.long (-4658895280553007687 : Int64))]) (rest := [(.long (own_x3 27 54 ((own_x3 31 62 q0) * own_inv (-7723592293110705685 : Int64))))]) (lenOf pd_0 rfl) rfl (by show 2 * 0 + _ ≤ _; exact Nat.le_of_eq rfl) (hb hby d4_37) (fun _ _ => ⟨rfl, eq1, (by decide : 0 + 0 ≤ _), (by decide : 0 + 0 ≤ _)⟩)
  dsimp only [Pt.U, Pt.locs, Pt.cells, Pt.slots] at X2 l2 y2 z2 st2 hQ2
  subst l2 y2 z2
  obtain ⟨rfl, Nq2, eq2⟩ := hQ2
  have N2 := Fr.app N1 Nq2
  refine Runs.by (fun t hr => st2 t hr) ?_
  show Runs p e below _ (T2.setTop (mkF m 40 #[.val (.long q0), .second, .val (.long (own_x3 27 54 ((own_x3 31 62 q0) * own_inv (-7723592293110705685 : Int64)))), .second] [(.long (own_inv (-4658895280553007687 : Int64))), (.long (own_x3 27 54 ((own_x3 31 62 q0) * own_inv (-7723592293110705685 : Int64))))]))
  refine Runs.by (fun _ hr => XS.lmul X2.here hx rfl (hb hby d4_40) rfl hr) ?_
  show Runs p e below _ (T2.setTop (mkF m 41 #[.val (.long q0), .second, .val (.long (own_x3 27 54 ((own_x3 31 62 q0) * own_inv (-7723592293110705685 : Int64)))), .second] [(.long ((own_x3 27 54 ((own_x3 31 62 q0) * own_inv (-7723592293110705685 : Int64))) * (own_inv (-4658895280553007687 : Int64))))]))
  refine Runs.by (fun _ hr => XS.lstoreN X2.here hx rfl (hb hby d4_41) rfl (l' := #[.val (.long q0), .second, .val (.long ((own_x3 27 54 ((own_x3 31 62 q0) * own_inv (-7723592293110705685 : Int64))) * (own_inv (-4658895280553007687 : Int64)))), .second]) rfl hr) ?_
  show Runs p e below _ (T2.setTop (mkF m 42 #[.val (.long q0), .second, .val (.long ((own_x3 27 54 ((own_x3 31 62 q0) * own_inv (-7723592293110705685 : Int64))) * own_inv (-4658895280553007687 : Int64))), .second] []))
  refine Runs.by (fun _ hr => XS.lloadN X2.here hx rfl (hb hby d4_42) rfl  hr) ?_
  show Runs p e below _ (T2.setTop (mkF m 43 #[.val (.long q0), .second, .val (.long ((own_x3 27 54 ((own_x3 31 62 q0) * own_inv (-7723592293110705685 : Int64))) * own_inv (-4658895280553007687 : Int64))), .second] [(.long ((own_x3 27 54 ((own_x3 31 62 q0) * own_inv (-7723592293110705685 : Int64))) * own_inv (-4658895280553007687 : Int64)))]))
  refine Runs.by (fun _ hr => XS.lloadN X2.here hx rfl (hb hby d4_43) rfl  hr) ?_
  show Runs p e below _ (T2.setTop (mkF m 44 #[.val (.long q0), .second, .val (.long ((own_x3 27 54 ((own_x3 31 62 q0) * own_inv (-7723592293110705685 : Int64))) * own_inv (-4658895280553007687 : Int64))), .second] [(.long ((own_x3 27 54 ((own_x3 31 62 q0) * own_inv (-7723592293110705685 : Int64))) * own_inv (-4658895280553007687 : Int64))), (.long ((own_x3 27 54 ((own_x3 31 62 q0) * own_inv (-7723592293110705685 : Int64))) * own_inv (-4658895280553007687 : Int64)))]))
  refine Runs.by (fun _ hr => XS.bipush X2.here hx rfl (hb hby d4_44) hr) ?_
  show Runs p e below _ (T2.setTop (mkF m 46 #[.val (.long q0), .second, .val (.long ((own_x3 27 54 ((own_x3 31 62 q0) * own_inv (-7723592293110705685 : Int64))) * own_inv (-4658895280553007687 : Int64))), .second] [(.int (30 : Int32)), (.long ((own_x3 27 54 ((own_x3 31 62 q0) * own_inv (-7723592293110705685 : Int64))) * own_inv (-4658895280553007687 : Int64))), (.long ((own_x3 27 54 ((own_x3 31 62 q0) * own_inv (-7723592293110705685 : Int64))) * own_inv (-4658895280553007687 : Int64)))]))
  refine Runs.by (fun _ hr => XS.lushr X2.here hx rfl (hb hby d4_46) rfl hr) ?_
  show Runs p e below _ (T2.setTop (mkF m 47 #[.val (.long q0), .second, .val (.long ((own_x3 27 54 ((own_x3 31 62 q0) * own_inv (-7723592293110705685 : Int64))) * own_inv (-4658895280553007687 : Int64))), .second] [(.long ((((own_x3 27 54 ((own_x3 31 62 q0) * own_inv (-7723592293110705685 : Int64))) * own_inv (-4658895280553007687 : Int64)).toUInt64 >>> ((30 : Int32) &&& 0x3f).toInt64.toUInt64).toInt64)), (.long ((own_x3 27 54 ((own_x3 31 62 q0) * own_inv (-7723592293110705685 : Int64))) * own_inv (-4658895280553007687 : Int64)))]))
  refine Runs.by (fun _ hr => XS.lxor X2.here hx rfl (hb hby d4_47) rfl hr) ?_
  show Runs p e below _ (T2.setTop (mkF m 48 #[.val (.long q0), .second, .val (.long ((own_x3 27 54 ((own_x3 31 62 q0) * own_inv (-7723592293110705685 : Int64))) * own_inv (-4658895280553007687 : Int64))), .second] [(.long (((own_x3 27 54 ((own_x3 31 62 q0) * own_inv (-7723592293110705685 : Int64))) * own_inv (-4658895280553007687 : Int64)) ^^^ ((((own_x3 27 54 ((own_x3 31 62 q0) * own_inv (-7723592293110705685 : Int64))) * own_inv (-4658895280553007687 : Int64)).toUInt64 >>> ((30 : Int32) &&& 0x3f).toInt64.toUInt64).toInt64)))]))
  refine Runs.by (fun _ hr => XS.lloadN X2.here hx rfl (hb hby d4_48) rfl  hr) ?_
  show Runs p e below _ (T2.setTop (mkF m 49 #[.val (.long q0), .second, .val (.long ((own_x3 27 54 ((own_x3 31 62 q0) * own_inv (-7723592293110705685 : Int64))) * own_inv (-4658895280553007687 : Int64))), .second] [(.long ((own_x3 27 54 ((own_x3 31 62 q0) * own_inv (-7723592293110705685 : Int64))) * own_inv (-4658895280553007687 : Int64))), (.long (((own_x3 27 54 ((own_x3 31 62 q0) * own_inv (-7723592293110705685 : Int64))) * own_inv (-4658895280553007687 : Int64)) ^^^ ((((own_x3 27 54 ((own_x3 31 62 q0) * own_inv (-7723592293110705685 : Int64))) * own_inv (-4658895280553007687 : Int64)).toUInt64 >>> ((30 : Int32) &&& 0x3f).toInt64.toUInt64).toInt64)))]))
  refine Runs.by (fun _ hr => XS.bipush X2.here hx rfl (hb hby d4_49) hr) ?_
  show Runs p e below _ (T2.setTop (mkF m 51 #[.val (.long q0), .second, .val (.long ((own_x3 27 54 ((own_x3 31 62 q0) * own_inv (-7723592293110705685 : Int64))) * own_inv (-4658895280553007687 : Int64))), .second] [(.int (60 : Int32)), (.long ((own_x3 27 54 ((own_x3 31 62 q0) * own_inv (-7723592293110705685 : Int64))) * own_inv (-4658895280553007687 : Int64))), (.long (((own_x3 27 54 ((own_x3 31 62 q0) * own_inv (-7723592293110705685 : Int64))) * own_inv (-4658895280553007687 : Int64)) ^^^ ((((own_x3 27 54 ((own_x3 31 62 q0) * own_inv (-7723592293110705685 : Int64))) * own_inv (-4658895280553007687 : Int64)).toUInt64 >>> ((30 : Int32) &&& 0x3f).toInt64.toUInt64).toInt64)))]))
  refine Runs.by (fun _ hr => XS.lushr X2.here hx rfl (hb hby d4_51) rfl hr) ?_
  show Runs p e below _ (T2.setTop (mkF m 52 #[.val (.long q0), .second, .val (.long ((own_x3 27 54 ((own_x3 31 62 q0) * own_inv (-7723592293110705685 : Int64))) * own_inv (-4658895280553007687 : Int64))), .second] [(.long ((((own_x3 27 54 ((own_x3 31 62 q0) * own_inv (-7723592293110705685 : Int64))) * own_inv (-4658895280553007687 : Int64)).toUInt64 >>> ((60 : Int32) &&& 0x3f).toInt64.toUInt64).toInt64)), (.long (((own_x3 27 54 ((own_x3 31 62 q0) * own_inv (-7723592293110705685 : Int64))) * own_inv (-4658895280553007687 : Int64)) ^^^ ((((own_x3 27 54 ((own_x3 31 62 q0) * own_inv (-7723592293110705685 : Int64))) * own_inv (-4658895280553007687 : Int64)).toUInt64 >>> ((30 : Int32) &&& 0x3f).toInt64.toUInt64).toInt64)))]))
  refine Runs.by (fun _ hr => XS.lxor X2.here hx rfl (hb hby d4_52) rfl hr) ?_
  show Runs p e below _ (T2.setTop (mkF m 53 #[.val (.long q0), .second, .val (.long ((own_x3 27 54 ((own_x3 31 62 q0) * own_inv (-7723592293110705685 : Int64))) * own_inv (-4658895280553007687 : Int64))), .second] [(.long ((((own_x3 27 54 ((own_x3 31 62 q0) * own_inv (-7723592293110705685 : Int64))) * own_inv (-4658895280553007687 : Int64)) ^^^ ((((own_x3 27 54 ((own_x3 31 62 q0) * own_inv (-7723592293110705685 : Int64))) * own_inv (-4658895280553007687 : Int64)).toUInt64 >>> ((30 : Int32) &&& 0x3f).toInt64.toUInt64).toInt64)) ^^^ ((((own_x3 27 54 ((own_x3 31 62 q0) * own_inv (-7723592293110705685 : Int64))) * own_inv (-4658895280553007687 : Int64)).toUInt64 >>> ((60 : Int32) &&& 0x3f).toInt64.toUInt64).toInt64)))]))
  refine Runs.by (fun _ hr => XS.lstoreN X2.here hx rfl (hb hby d4_53) rfl (l' := #[.val (.long q0), .second, .val (.long ((((own_x3 27 54 ((own_x3 31 62 q0) * own_inv (-7723592293110705685 : Int64))) * own_inv (-4658895280553007687 : Int64)) ^^^ ((((own_x3 27 54 ((own_x3 31 62 q0) * own_inv (-7723592293110705685 : Int64))) * own_inv (-4658895280553007687 : Int64)).toUInt64 >>> ((30 : Int32) &&& 0x3f).toInt64.toUInt64).toInt64)) ^^^ ((((own_x3 27 54 ((own_x3 31 62 q0) * own_inv (-7723592293110705685 : Int64))) * own_inv (-4658895280553007687 : Int64)).toUInt64 >>> ((60 : Int32) &&& 0x3f).toInt64.toUInt64).toInt64))), .second]) rfl hr) ?_
  show Runs p e below _ (T2.setTop (mkF m 54 #[.val (.long q0), .second, .val (.long (own_unmix q0)), .second] []))
  refine Runs.by (fun _ hr => XS.lloadN X2.here hx rfl (hb hby d4_54) rfl  hr) ?_
  show Runs p e below _ (T2.setTop (mkF m 55 #[.val (.long q0), .second, .val (.long (own_unmix q0)), .second] [(.long (own_unmix q0))]))
  refine Runs.ret X2 hx hrt hlk (Or.inr (Or.inl ⟨rfl, rfl, _, rfl⟩)) rfl (hb hby d4_55) (by decide) (by decide) ?_
  rw [eq2]
  exact ⟨rfl, N2, rfl⟩
theorem ef_0_4 (m : MethodId) (q0 : Int64) : entryFrame m #[(.long q0)] maxLocals = mkF m 0 #[.val (.long q0), .second, .unset, .unset, .unset, .unset, .unset, .unset, .unset] [] := by first | (simp [entryFrame, mkF, argsToLocals, Value.category, maxLocals]; done) | rfl
def Q_rm0 (Z : State) (q0 : Int64)  (h0 : Heap) (n0 : Nat) (v : Option Value) (h : Heap) (L : List Loc) : Prop := v = some (.int 1) ∧ Fr n0 L
theorem pd_1 : parseMethodDescriptor "(J)V" = some ⟨[.long], none⟩ := by decide +kernel
theorem pd_2 : parseMethodDescriptor "()J" = some ⟨[], some .long⟩ := by decide +kernel
set_option maxRecDepth 65536 in
set_option maxHeartbeats 40000000 in
theorem rm0 (l : Launch) (Z : State) (a0 : Array Value) (hw : ∀ d ∈ tables_1, d.before a0 Z = true) (ws : List Jvm.Cond) (q0 : Int64)  (h0 : Heap) (n0 : Nat) (Z0 : n0 ≤ h0.size) :
    MetFree l x (head1 (Jvm.Cond.code x code maxLocals ret :: ws) room_1) (fun a U => a = #[(.long q0)] ∧ Z.Warmed39 U.vm ∧ U.heap = h0) (fun _ _ _ _ _ => True) (fun _ U o U' => ∃ v L, o = .returned v ∧ Q_rm0 Z q0 h0 n0 v U'.heap L ∧ FrameEnd U o U' L room_1.cells room_1.slots) := by
  refine MetFree.of_bodySF (plainFor_of_name pn_com_example_dialtone_dialtone_workload_RandomStreamNextLongPinLaw) hisR ?_
  intro p e s m args below meth c s₁ Bd hml0 hP hK
  obtain ⟨rfl, hZ, hh⟩ := hP
  have hx := Bd.exec
  have hby := Bd.bytes
  have hlk := BodyLoose.notSynchronized Bd
  have hrt := Bd.returns
  have hml : c.maxLocals = 9 := hml0
  have hown : s.vm.findClass "com/example/dialtone/dialtone/workload/RandomStreamNextLongPinLaw" = some m.cls := findClass_of_methodNamed Bd.named
  have hnm := (name_of_methodNamed Bd.named Bd.method).1
  have X0 : Stand p l e room_1 s m #[(.long q0)] below meth c s₁ [] 0 0 := Stand.of_body Bd
  have e0 : s₁.heap = h0 := by rw [← hh, Bd.state]; rfl
  have N0 := Fr.nil n0
  have K0 : Keep h0 h0 [] := Keep.refl h0 _
  show Runs p e below (QE s (Q_rm0 Z q0 h0 n0) room_1.cells room_1.slots) (s₁.setTop (entryFrame m #[(.long q0)] maxLocals))
  rw [ef_0_4 m q0]
  show Runs p e below _ (s₁.setTop (mkF m 0 #[.val (.long q0), .second, .unset, .unset, .unset, .unset, .unset, .unset, .unset] []))
  refine Runs.by (fun _ hr => X0.ldc2J hx hown (mvT hZ (hw _ (List.mem_of_getElem? (i := 0) rfl))) (g := (mkF m 0 #[.val (.long q0), .second, .unset, .unset, .unset, .unset, .unset, .unset, .unset] [])) rfl (hb hby at_0) hr) ?_
  show Runs p e below _ (s₁.setTop (mkF m 3 #[.val (.long q0), .second, .unset, .unset, .unset, .unset, .unset, .unset, .unset] [(.long (-7046029254386353131 : Int64))]))
  refine Runs.by (fun _ hr => XS.lstoreN X0.here hx rfl (hb hby at_3) rfl (l' := #[.val (.long q0), .second, .val (.long (-7046029254386353131 : Int64)), .second, .unset, .unset, .unset, .unset, .unset]) rfl hr) ?_
  show Runs p e below _ (s₁.setTop (mkF m 4 #[.val (.long q0), .second, .val (.long (-7046029254386353131 : Int64)), .second, .unset, .unset, .unset, .unset, .unset] []))
  obtain ⟨T1, h1, X1, e1, E1, A1, D1, -, st1⟩ := newO X0 hx hZ hown (hw _ (List.mem_of_getElem? (i := 1) rfl)) (hw _ (List.mem_of_getElem? (i := 2) rfl)) (hw _ (List.mem_of_getElem? (i := 3) rfl)) e0 (g := (mkF m 4 #[.val (.long q0), .second, .val (.long (-7046029254386353131 : Int64)), .second, .unset, .unset, .unset, .unset, .unset] [])) rfl (hb hby at_4) (by decide) (by decide)
  obtain ⟨b1, gz1⟩ : ∃ z, z = h0.size := ⟨_, rfl⟩
  rw [← gz1] at A1 D1 st1
  have g_b1 : n0 ≤ b1 := Nat.le_trans (Nat.le_trans Z0 K0.1) (Nat.le_of_eq gz1.symm)
  have sz_b1 : h0.size ≤ b1 := Nat.le_trans K0.1 (Nat.le_of_eq gz1.symm)
  have K2 : Keep h0 h1 [] := K0.ext E1
  have F_state_b1 : Fld Z h1 b1 "com/example/dialtone/dialtone/workload/RandomStream" "state" "J" (.long (0 : Int64)) := D1 (Or.inl (hw _ (List.mem_of_getElem? (i := 11) rfl))) (ty := .long) (by decide)
  refine Runs.by st1 ?_
  show Runs p e below _ (T1.setTop (mkF m 7 #[.val (.long q0), .second, .val (.long (-7046029254386353131 : Int64)), .second, .unset, .unset, .unset, .unset, .unset] [(.ref b1)]))
  refine Runs.by (fun _ hr => XS.dup X1.here hx rfl (hb hby at_7) rfl rfl hr) ?_
  show Runs p e below _ (T1.setTop (mkF m 8 #[.val (.long q0), .second, .val (.long (-7046029254386353131 : Int64)), .second, .unset, .unset, .unset, .unset, .unset] [(.ref b1), (.ref b1)]))
  refine Runs.by (fun _ hr => XS.lloadN X1.here hx rfl (hb hby at_8) rfl  hr) ?_
  show Runs p e below _ (T1.setTop (mkF m 9 #[.val (.long q0), .second, .val (.long (-7046029254386353131 : Int64)), .second, .unset, .unset, .unset, .unset, .unset] [(.long q0), (.ref b1), (.ref b1)]))
  obtain ⟨_, _, ⟨T3, L3, k3, n3⟩, -, X3, ⟨Lc3, hQ3, l3, y3, z3⟩, st3⟩ := X1.specialBack hx (y := (⟨"com/example/dialtone/dialtone/workload/RandomStream", "<init>", "(J)V"⟩ : MethodName)) rfl hown (mvT hZ (hw _ (List.mem_of_getElem? (i := 4) rfl))) (mvT hZ (hw _ (List.mem_of_getElem? (i := 5) rfl))) (mvT hZ (hw _ (List.mem_of_getElem? (i := 6) rfl))) (by decide) (backOf (W := 1) (rm1 l Z a0 hw [] b1 q0  h1 n0 (Nat.le_trans Z0 K2.1) A1 F_state_b1 g_b1) hZ (hw _ (List.mem_of_getElem? (i := 6) rfl)) (hw _ (List.mem_of_getElem? (i := 3) rfl)) (by decide) (by decide)) (g := (mkF m 9 #[.val (.long q0), .second, .val (.long (-7046029254386353131 : Int64)), .second, .unset, .unset, .unset, .unset, .unset] [(.long q0), (.ref b1), (.ref b1)])) rfl (by rw [hml]; rfl) (Steps.refl _) (a := b1) (argsL := [(.long q0)]) (rest := [(.ref b1)]) (lenOf pd_1 rfl) rfl (by show 2 * 0 + _ ≤ _; exact Nat.le_of_eq rfl) (hb hby at_9) (fun _ _ => ⟨rfl, e1, (by decide : 1 + 0 ≤ _), (by decide : 1 + 0 ≤ _)⟩)
  dsimp only [Pt.U, Pt.locs, Pt.cells, Pt.slots] at X3 l3 y3 z3 st3 hQ3
  subst l3 y3 z3
  obtain ⟨rfl, Nq3, Kq3, f3_0, f3_1⟩ := hQ3
  have N3 := Fr.app N0 Nq3
  have K4 : Keep h0 T3.heap [] := Keep.trans (ws := []) K2 Kq3 (allS (Or.inr sz_b1) all0)
  refine Runs.by (fun _ hr => st3.trans hr) ?_
  show Runs p e below _ (T3.setTop (mkF m 12 #[.val (.long q0), .second, .val (.long (-7046029254386353131 : Int64)), .second, .unset, .unset, .unset, .unset, .unset] [(.ref b1)]))
  refine Runs.by (fun _ hr => XS.astore X3.here hx rfl (hb hby at_12) rfl rfl (l' := #[.val (.long q0), .second, .val (.long (-7046029254386353131 : Int64)), .second, .val (.ref b1), .unset, .unset, .unset, .unset]) rfl hr) ?_
  show Runs p e below _ (T3.setTop (mkF m 14 #[.val (.long q0), .second, .val (.long (-7046029254386353131 : Int64)), .second, .val (.ref b1), .unset, .unset, .unset, .unset] []))
  refine Runs.by (fun _ hr => XS.aload X3.here hx rfl (hb hby at_14) rfl rfl hr) ?_
  show Runs p e below _ (T3.setTop (mkF m 16 #[.val (.long q0), .second, .val (.long (-7046029254386353131 : Int64)), .second, .val (.ref b1), .unset, .unset, .unset, .unset] [(.ref b1)]))
  obtain ⟨cq5, kq5, q5a, q5b, q5c⟩ := isOf hZ rfl f3_0
  obtain ⟨_, _, ⟨T5, L5, k5, n5⟩, -, X5, ⟨Lc5, hQ5, l5, y5, z5⟩, st5⟩ := X3.virtualBack hx (y := (⟨"com/example/dialtone/dialtone/workload/RandomStream", "nextLong", "()J"⟩ : MethodName)) (z := (⟨"com/example/dialtone/dialtone/workload/RandomStream", "nextLong", "()J"⟩ : MethodName)) hown (mvT hZ (hw _ (List.mem_of_getElem? (i := 12) rfl))) (mvT hZ (hw _ (List.mem_of_getElem? (i := 13) rfl))) (notFace_of_selects (args := #[]) (mvT hZ (hw _ (List.mem_of_getElem? (i := 15) rfl)))) (mvT hZ (hw _ (List.mem_of_getElem? (i := 15) rfl))) (mvT hZ (hw _ (List.mem_of_getElem? (i := 14) rfl))) (by decide) (backOf (W := 0) (rm3 l Z a0 hw [] b1 q0 T3.heap n0 (Nat.le_trans Z0 K4.1) f3_0 f3_1 g_b1) hZ (hw _ (List.mem_of_getElem? (i := 16) rfl)) (hw _ (List.mem_of_getElem? (i := 3) rfl)) (by decide) (by decide)) q5a q5c (g := (mkF m 16 #[.val (.long q0), .second, .val (.long (-7046029254386353131 : Int64)), .second, .val (.ref b1), .unset, .unset, .unset, .unset] [(.ref b1)])) rfl (by rw [hml]; rfl) (Steps.refl _) (argsL := []) (rest := []) (lenOf pd_2 rfl) rfl (by show 2 * 0 + _ ≤ _; exact Nat.le_of_eq rfl) (hb hby at_16) (fun _ _ => ⟨rfl, rfl, (by decide : 1 + 0 ≤ _), (by decide : 1 + 0 ≤ _)⟩)
  dsimp only [Pt.U, Pt.locs, Pt.cells, Pt.slots] at X5 l5 y5 z5 st5 hQ5
  subst l5 y5 z5
  obtain ⟨rfl, Nq5, Kq5, f5_0, f5_1⟩ := hQ5
  have N5 := Fr.app N3 Nq5
  have K6 : Keep h0 T5.heap [] := Keep.trans (ws := []) K4 Kq5 (allS (Or.inr sz_b1) all0)
  refine Runs.by (fun _ hr => st5.trans hr) ?_
  show Runs p e below _ (T5.setTop (mkF m 19 #[.val (.long q0), .second, .val (.long (-7046029254386353131 : Int64)), .second, .val (.ref b1), .unset, .unset, .unset, .unset] [(.long (own_mix (q0 + (-7046029254386353131 : Int64))))]))
  refine Runs.by (fun _ hr => XS.lstore X5.here hx rfl (hb hby at_19) rfl (l' := #[.val (.long q0), .second, .val (.long (-7046029254386353131 : Int64)), .second, .val (.ref b1), .val (.long (own_mix (q0 + (-7046029254386353131 : Int64)))), .second, .unset, .unset]) rfl hr) ?_
  show Runs p e below _ (T5.setTop (mkF m 21 #[.val (.long q0), .second, .val (.long (-7046029254386353131 : Int64)), .second, .val (.ref b1), .val (.long (own_mix (q0 + (-7046029254386353131 : Int64)))), .second, .unset, .unset] []))
  refine Runs.by (fun _ hr => XS.aload X5.here hx rfl (hb hby at_21) rfl rfl hr) ?_
  show Runs p e below _ (T5.setTop (mkF m 23 #[.val (.long q0), .second, .val (.long (-7046029254386353131 : Int64)), .second, .val (.ref b1), .val (.long (own_mix (q0 + (-7046029254386353131 : Int64)))), .second, .unset, .unset] [(.ref b1)]))
  obtain ⟨cq7, kq7, q7a, q7b, q7c⟩ := isOf hZ rfl f5_0
  obtain ⟨_, _, ⟨T7, L7, k7, n7⟩, -, X7, ⟨Lc7, hQ7, l7, y7, z7⟩, st7⟩ := X5.virtualBack hx (y := (⟨"com/example/dialtone/dialtone/workload/RandomStream", "nextLong", "()J"⟩ : MethodName)) (z := (⟨"com/example/dialtone/dialtone/workload/RandomStream", "nextLong", "()J"⟩ : MethodName)) hown (mvT hZ (hw _ (List.mem_of_getElem? (i := 12) rfl))) (mvT hZ (hw _ (List.mem_of_getElem? (i := 13) rfl))) (notFace_of_selects (args := #[]) (mvT hZ (hw _ (List.mem_of_getElem? (i := 15) rfl)))) (mvT hZ (hw _ (List.mem_of_getElem? (i := 15) rfl))) (mvT hZ (hw _ (List.mem_of_getElem? (i := 14) rfl))) (by decide) (backOf (W := 0) (rm3 l Z a0 hw [] b1 (q0 + (-7046029254386353131 : Int64)) T5.heap n0 (Nat.le_trans Z0 K6.1) f5_0 f5_1 g_b1) hZ (hw _ (List.mem_of_getElem? (i := 16) rfl)) (hw _ (List.mem_of_getElem? (i := 3) rfl)) (by decide) (by decide)) q7a q7c (g := (mkF m 23 #[.val (.long q0), .second, .val (.long (-7046029254386353131 : Int64)), .second, .val (.ref b1), .val (.long (own_mix (q0 + (-7046029254386353131 : Int64)))), .second, .unset, .unset] [(.ref b1)])) rfl (by rw [hml]; rfl) (Steps.refl _) (argsL := []) (rest := []) (lenOf pd_2 rfl) rfl (by show 2 * 0 + _ ≤ _; exact Nat.le_of_eq rfl) (hb hby at_23) (fun _ _ => ⟨rfl, rfl, (by decide : 1 + 0 ≤ _), (by decide : 1 + 0 ≤ _)⟩)
  dsimp only [Pt.U, Pt.locs, Pt.cells, Pt.slots] at X7 l7 y7 z7 st7 hQ7
  subst l7 y7 z7
  obtain ⟨rfl, Nq7, Kq7, f7_0, f7_1⟩ := hQ7
  have N7 := Fr.app N5 Nq7
  have K8 : Keep h0 T7.heap [] := Keep.trans (ws := []) K6 Kq7 (allS (Or.inr sz_b1) all0)
  refine Runs.by (fun _ hr => st7.trans hr) ?_
  show Runs p e below _ (T7.setTop (mkF m 26 #[.val (.long q0), .second, .val (.long (-7046029254386353131 : Int64)), .second, .val (.ref b1), .val (.long (own_mix (q0 + (-7046029254386353131 : Int64)))), .second, .unset, .unset] [(.long (own_mix ((q0 + (-7046029254386353131 : Int64)) + (-7046029254386353131 : Int64))))]))
  refine Runs.by (fun _ hr => XS.lstore X7.here hx rfl (hb hby at_26) rfl (l' := #[.val (.long q0), .second, .val (.long (-7046029254386353131 : Int64)), .second, .val (.ref b1), .val (.long (own_mix (q0 + (-7046029254386353131 : Int64)))), .second, .val (.long (own_mix ((q0 + (-7046029254386353131 : Int64)) + (-7046029254386353131 : Int64)))), .second]) rfl hr) ?_
  show Runs p e below _ (T7.setTop (mkF m 28 #[.val (.long q0), .second, .val (.long (-7046029254386353131 : Int64)), .second, .val (.ref b1), .val (.long (own_mix (q0 + (-7046029254386353131 : Int64)))), .second, .val (.long (own_mix ((q0 + (-7046029254386353131 : Int64)) + (-7046029254386353131 : Int64)))), .second] []))
  refine Runs.by (fun _ hr => XS.lload X7.here hx rfl (hb hby at_28) rfl  hr) ?_
  show Runs p e below _ (T7.setTop (mkF m 30 #[.val (.long q0), .second, .val (.long (-7046029254386353131 : Int64)), .second, .val (.ref b1), .val (.long (own_mix (q0 + (-7046029254386353131 : Int64)))), .second, .val (.long (own_mix ((q0 + (-7046029254386353131 : Int64)) + (-7046029254386353131 : Int64)))), .second] [(.long (own_mix (q0 + (-7046029254386353131 : Int64))))]))
  obtain ⟨_, _, ⟨T9, L9, k9, n9⟩, -, X9, ⟨Lc9, hQ9, l9, y9, z9⟩, st9⟩ := Jvm.LawKit.callS X7 hx (y := (⟨"com/example/dialtone/dialtone/workload/RandomStreamNextLongPinLaw", "unmix", "(J)J"⟩ : MethodName)) hown (mvT hZ (hw _ (List.mem_of_getElem? (i := 20) rfl))) (mvT hZ (hw _ (List.mem_of_getElem? (i := 21) rfl))) (mvT hZ (hw _ (List.mem_of_getElem? (i := 22) rfl))) (mvT hZ (hw _ (List.mem_of_getElem? (i := 23) rfl))) (by decide) (backOf (W := 0) (rm4 l Z a0 hw [] (own_mix (q0 + (-7046029254386353131 : Int64)))  T7.heap n0 (Nat.le_trans Z0 K8.1) ) hZ (hw _ (List.mem_of_getElem? (i := 23) rfl)) (hw _ (List.mem_of_getElem? (i := 22) rfl)) (by decide) (by decide)) (g := (mkF m 30 #[.val (.long q0), .second, .val (.long (-7046029254386353131 : Int64)), .second, .val (.ref b1), .val (.long (own_mix (q0 + (-7046029254386353131 : Int64)))), .second, .val (.long (own_mix ((q0 + (-7046029254386353131 : Int64)) + (-7046029254386353131 : Int64)))), .second] [(.long (own_mix (q0 + (-7046029254386353131 : Int64))))])) rfl (by rw [hml]; rfl) (argsL := [(.long (own_mix (q0 + (-7046029254386353131 : Int64))))]) (rest := []) (lenOf pd_0 rfl) rfl (by show 2 * 0 + _ ≤ _; exact Nat.le_of_eq rfl) (hb hby at_30) (fun _ _ => ⟨rfl, rfl, (by decide : 1 + 0 ≤ _), (by decide : 1 + 0 ≤ _)⟩)
  dsimp only [Pt.U, Pt.locs, Pt.cells, Pt.slots] at X9 l9 y9 z9 st9 hQ9
  subst l9 y9 z9
  obtain ⟨rfl, Nq9, eq9⟩ := hQ9
  have N9 := Fr.app N7 Nq9
  refine Runs.by (fun t hr => st9 t hr) ?_
  show Runs p e below _ (T9.setTop (mkF m 33 #[.val (.long q0), .second, .val (.long (-7046029254386353131 : Int64)), .second, .val (.ref b1), .val (.long (own_mix (q0 + (-7046029254386353131 : Int64)))), .second, .val (.long (own_mix ((q0 + (-7046029254386353131 : Int64)) + (-7046029254386353131 : Int64)))), .second] [(.long (own_unmix (own_mix (q0 + (-7046029254386353131 : Int64)))))]))
  refine Runs.by (fun _ hr => XS.lloadN X9.here hx rfl (hb hby at_33) rfl  hr) ?_
  show Runs p e below _ (T9.setTop (mkF m 34 #[.val (.long q0), .second, .val (.long (-7046029254386353131 : Int64)), .second, .val (.ref b1), .val (.long (own_mix (q0 + (-7046029254386353131 : Int64)))), .second, .val (.long (own_mix ((q0 + (-7046029254386353131 : Int64)) + (-7046029254386353131 : Int64)))), .second] [(.long q0), (.long (own_unmix (own_mix (q0 + (-7046029254386353131 : Int64)))))]))
  refine Runs.by (fun _ hr => XS.lloadN X9.here hx rfl (hb hby at_34) rfl  hr) ?_
  show Runs p e below _ (T9.setTop (mkF m 35 #[.val (.long q0), .second, .val (.long (-7046029254386353131 : Int64)), .second, .val (.ref b1), .val (.long (own_mix (q0 + (-7046029254386353131 : Int64)))), .second, .val (.long (own_mix ((q0 + (-7046029254386353131 : Int64)) + (-7046029254386353131 : Int64)))), .second] [(.long (-7046029254386353131 : Int64)), (.long q0), (.long (own_unmix (own_mix (q0 + (-7046029254386353131 : Int64)))))]))
  refine Runs.by (fun _ hr => XS.ladd X9.here hx rfl (hb hby at_35) rfl hr) ?_
  show Runs p e below _ (T9.setTop (mkF m 36 #[.val (.long q0), .second, .val (.long (-7046029254386353131 : Int64)), .second, .val (.ref b1), .val (.long (own_mix (q0 + (-7046029254386353131 : Int64)))), .second, .val (.long (own_mix ((q0 + (-7046029254386353131 : Int64)) + (-7046029254386353131 : Int64)))), .second] [(.long (q0 + (-7046029254386353131 : Int64))), (.long (own_unmix (own_mix (q0 + (-7046029254386353131 : Int64)))))]))
  refine Runs.by (fun _ hr => XS.lcmp X9.here hx rfl (hb hby at_36) rfl hr) ?_
  show Runs p e below _ (T9.setTop (mkF m 37 #[.val (.long q0), .second, .val (.long (-7046029254386353131 : Int64)), .second, .val (.ref b1), .val (.long (own_mix (q0 + (-7046029254386353131 : Int64)))), .second, .val (.long (own_mix ((q0 + (-7046029254386353131 : Int64)) + (-7046029254386353131 : Int64)))), .second] [(.int (lcmpW (own_unmix (own_mix (q0 + (-7046029254386353131 : Int64)))) (q0 + (-7046029254386353131 : Int64))))]))
  have hc37 : (lcmpW (own_unmix (own_mix (q0 + (-7046029254386353131 : Int64)))) (q0 + (-7046029254386353131 : Int64))) = (0 : Int32) := own_lc0 (own_unmix_mix _)
  refine Runs.by (fun _ hr => XS.ifNo X9.here hx rfl (hb hby at_37) rfl ((if0 _ _).trans (teq hc37).2) hr) ?_
  show Runs p e below _ (T9.setTop (mkF m 40 #[.val (.long q0), .second, .val (.long (-7046029254386353131 : Int64)), .second, .val (.ref b1), .val (.long (own_mix (q0 + (-7046029254386353131 : Int64)))), .second, .val (.long (own_mix ((q0 + (-7046029254386353131 : Int64)) + (-7046029254386353131 : Int64)))), .second] []))
  refine Runs.by (fun _ hr => XS.lload X9.here hx rfl (hb hby at_40) rfl  hr) ?_
  show Runs p e below _ (T9.setTop (mkF m 42 #[.val (.long q0), .second, .val (.long (-7046029254386353131 : Int64)), .second, .val (.ref b1), .val (.long (own_mix (q0 + (-7046029254386353131 : Int64)))), .second, .val (.long (own_mix ((q0 + (-7046029254386353131 : Int64)) + (-7046029254386353131 : Int64)))), .second] [(.long (own_mix ((q0 + (-7046029254386353131 : Int64)) + (-7046029254386353131 : Int64))))]))
  obtain ⟨_, _, ⟨T10, L10, k10, n10⟩, -, X10, ⟨Lc10, hQ10, l10, y10, z10⟩, st10⟩ := Jvm.LawKit.callS X9 hx (y := (⟨"com/example/dialtone/dialtone/workload/RandomStreamNextLongPinLaw", "unmix", "(J)J"⟩ : MethodName)) hown (mvT hZ (hw _ (List.mem_of_getElem? (i := 20) rfl))) (mvT hZ (hw _ (List.mem_of_getElem? (i := 21) rfl))) (mvT hZ (hw _ (List.mem_of_getElem? (i := 22) rfl))) (mvT hZ (hw _ (List.mem_of_getElem? (i := 23) rfl))) (by decide) (backOf (W := 0) (rm4 l Z a0 hw [] (own_mix ((q0 + (-7046029254386353131 : Int64)) + (-7046029254386353131 : Int64)))  T7.heap n0 (Nat.le_trans Z0 K8.1) ) hZ (hw _ (List.mem_of_getElem? (i := 23) rfl)) (hw _ (List.mem_of_getElem? (i := 22) rfl)) (by decide) (by decide)) (g := (mkF m 42 #[.val (.long q0), .second, .val (.long (-7046029254386353131 : Int64)), .second, .val (.ref b1), .val (.long (own_mix (q0 + (-7046029254386353131 : Int64)))), .second, .val (.long (own_mix ((q0 + (-7046029254386353131 : Int64)) + (-7046029254386353131 : Int64)))), .second] [(.long (own_mix ((q0 + (-7046029254386353131 : Int64)) + (-7046029254386353131 : Int64))))])) rfl (by rw [hml]; rfl) (argsL := [(.long (own_mix ((q0 + (-7046029254386353131 : Int64)) + (-7046029254386353131 : Int64))))]) (rest := []) (lenOf pd_0 rfl) rfl (by show 2 * 0 + _ ≤ _; exact Nat.le_of_eq rfl) (hb hby at_42) (fun _ _ => ⟨rfl, eq9, (by decide : 1 + 0 ≤ _), (by decide : 1 + 0 ≤ _)⟩)
  dsimp only [Pt.U, Pt.locs, Pt.cells, Pt.slots] at X10 l10 y10 z10 st10 hQ10
  subst l10 y10 z10
  obtain ⟨rfl, Nq10, eq10⟩ := hQ10
  have N10 := Fr.app N9 Nq10
  refine Runs.by (fun t hr => st10 t hr) ?_
  show Runs p e below _ (T10.setTop (mkF m 45 #[.val (.long q0), .second, .val (.long (-7046029254386353131 : Int64)), .second, .val (.ref b1), .val (.long (own_mix (q0 + (-7046029254386353131 : Int64)))), .second, .val (.long (own_mix ((q0 + (-7046029254386353131 : Int64)) + (-7046029254386353131 : Int64)))), .second] [(.long (own_unmix (own_mix ((q0 + (-7046029254386353131 : Int64)) + (-7046029254386353131 : Int64)))))]))
  refine Runs.by (fun _ hr => XS.lloadN X10.here hx rfl (hb hby at_45) rfl  hr) ?_
  show Runs p e below _ (T10.setTop (mkF m 46 #[.val (.long q0), .second, .val (.long (-7046029254386353131 : Int64)), .second, .val (.ref b1), .val (.long (own_mix (q0 + (-7046029254386353131 : Int64)))), .second, .val (.long (own_mix ((q0 + (-7046029254386353131 : Int64)) + (-7046029254386353131 : Int64)))), .second] [(.long q0), (.long (own_unmix (own_mix ((q0 + (-7046029254386353131 : Int64)) + (-7046029254386353131 : Int64)))))]))
  refine Runs.by (fun _ hr => XS.lloadN X10.here hx rfl (hb hby at_46) rfl  hr) ?_
  show Runs p e below _ (T10.setTop (mkF m 47 #[.val (.long q0), .second, .val (.long (-7046029254386353131 : Int64)), .second, .val (.ref b1), .val (.long (own_mix (q0 + (-7046029254386353131 : Int64)))), .second, .val (.long (own_mix ((q0 + (-7046029254386353131 : Int64)) + (-7046029254386353131 : Int64)))), .second] [(.long (-7046029254386353131 : Int64)), (.long q0), (.long (own_unmix (own_mix ((q0 + (-7046029254386353131 : Int64)) + (-7046029254386353131 : Int64)))))]))
  refine Runs.by (fun _ hr => XS.ladd X10.here hx rfl (hb hby at_47) rfl hr) ?_
  show Runs p e below _ (T10.setTop (mkF m 48 #[.val (.long q0), .second, .val (.long (-7046029254386353131 : Int64)), .second, .val (.ref b1), .val (.long (own_mix (q0 + (-7046029254386353131 : Int64)))), .second, .val (.long (own_mix ((q0 + (-7046029254386353131 : Int64)) + (-7046029254386353131 : Int64)))), .second] [(.long (q0 + (-7046029254386353131 : Int64))), (.long (own_unmix (own_mix ((q0 + (-7046029254386353131 : Int64)) + (-7046029254386353131 : Int64)))))]))
  refine Runs.by (fun _ hr => XS.lloadN X10.here hx rfl (hb hby at_48) rfl  hr) ?_
  show Runs p e below _ (T10.setTop (mkF m 49 #[.val (.long q0), .second, .val (.long (-7046029254386353131 : Int64)), .second, .val (.ref b1), .val (.long (own_mix (q0 + (-7046029254386353131 : Int64)))), .second, .val (.long (own_mix ((q0 + (-7046029254386353131 : Int64)) + (-7046029254386353131 : Int64)))), .second] [(.long (-7046029254386353131 : Int64)), (.long (q0 + (-7046029254386353131 : Int64))), (.long (own_unmix (own_mix ((q0 + (-7046029254386353131 : Int64)) + (-7046029254386353131 : Int64)))))]))
  refine Runs.by (fun _ hr => XS.ladd X10.here hx rfl (hb hby at_49) rfl hr) ?_
  show Runs p e below _ (T10.setTop (mkF m 50 #[.val (.long q0), .second, .val (.long (-7046029254386353131 : Int64)), .second, .val (.ref b1), .val (.long (own_mix (q0 + (-7046029254386353131 : Int64)))), .second, .val (.long (own_mix ((q0 + (-7046029254386353131 : Int64)) + (-7046029254386353131 : Int64)))), .second] [(.long ((q0 + (-7046029254386353131 : Int64)) + (-7046029254386353131 : Int64))), (.long (own_unmix (own_mix ((q0 + (-7046029254386353131 : Int64)) + (-7046029254386353131 : Int64)))))]))
  refine Runs.by (fun _ hr => XS.lcmp X10.here hx rfl (hb hby at_50) rfl hr) ?_
  show Runs p e below _ (T10.setTop (mkF m 51 #[.val (.long q0), .second, .val (.long (-7046029254386353131 : Int64)), .second, .val (.ref b1), .val (.long (own_mix (q0 + (-7046029254386353131 : Int64)))), .second, .val (.long (own_mix ((q0 + (-7046029254386353131 : Int64)) + (-7046029254386353131 : Int64)))), .second] [(.int (lcmpW (own_unmix (own_mix ((q0 + (-7046029254386353131 : Int64)) + (-7046029254386353131 : Int64)))) ((q0 + (-7046029254386353131 : Int64)) + (-7046029254386353131 : Int64))))]))
  have hc51 : (lcmpW (own_unmix (own_mix ((q0 + (-7046029254386353131 : Int64)) + (-7046029254386353131 : Int64)))) ((q0 + (-7046029254386353131 : Int64)) + (-7046029254386353131 : Int64))) = (0 : Int32) := own_lc0 (own_unmix_mix _)
  refine Runs.by (fun _ hr => XS.ifNo X10.here hx rfl (hb hby at_51) rfl ((if0 _ _).trans (teq hc51).2) hr) ?_
  show Runs p e below _ (T10.setTop (mkF m 54 #[.val (.long q0), .second, .val (.long (-7046029254386353131 : Int64)), .second, .val (.ref b1), .val (.long (own_mix (q0 + (-7046029254386353131 : Int64)))), .second, .val (.long (own_mix ((q0 + (-7046029254386353131 : Int64)) + (-7046029254386353131 : Int64)))), .second] []))
  refine Runs.by (fun _ hr => XS.iconst X10.here hx rfl (hb hby at_54) hr) ?_
  show Runs p e below _ (T10.setTop (mkF m 55 #[.val (.long q0), .second, .val (.long (-7046029254386353131 : Int64)), .second, .val (.ref b1), .val (.long (own_mix (q0 + (-7046029254386353131 : Int64)))), .second, .val (.long (own_mix ((q0 + (-7046029254386353131 : Int64)) + (-7046029254386353131 : Int64)))), .second] [(.int (1 : Int32))]))
  refine Runs.by (fun _ hr => XS.goto X10.here hx rfl (pc0 := 55) (pc' := 59) rfl (hb hby at_55) (by decide) (by decide) hr) ?_
  show Runs p e below _ (T10.setTop (mkF m 59 #[.val (.long q0), .second, .val (.long (-7046029254386353131 : Int64)), .second, .val (.ref b1), .val (.long (own_mix (q0 + (-7046029254386353131 : Int64)))), .second, .val (.long (own_mix ((q0 + (-7046029254386353131 : Int64)) + (-7046029254386353131 : Int64)))), .second] [(.int (1 : Int32))]))
  refine Runs.ret X10 hx hrt hlk (Or.inl ⟨rfl, by simp, _, rfl⟩) (by rfl) (hb hby at_59) (by decide) (by decide) ?_
  rw [eq10]
  exact ⟨rfl, N10⟩
set_option maxRecDepth 65536 in
set_option maxHeartbeats 40000000 in
theorem comes_1 {Post : Tables → Env → Array Value → State → Outcome → State → Prop} (hpost : ∀ tb e args s v u, (limb_1_1.after args s (.returned v) u = true ∧ limb_1_2.after args s (.returned v) u = true ∧ True) → FrameEnd s (.returned v) u (Jvm.fieldLocs frame_1_writes args s ++ Jvm.arrayLocs frame_1_arrays args s ++ Jvm.staticLocs frame_1_statics s) 16 128 → Post tb e args s (.returned v) u) :
    ArmFor flags0 classFile x code maxLocals ret World_1 tables_1 room_1 Calls_1 rest_1 Pre_1 Post := by
  intro l hfl _ _ p e ha hc hk s m args below hf hA hF happ hP
  obtain ⟨hcalls, hrest, hpre⟩ := hP
  obtain ⟨-, -, -, hnamed, -, -, -, hat⟩ := (Spec.applies_iff hf).mp happ
  obtain ⟨hg, hn⟩ := and_e (Cond.before_iff.mp (show (Jvm.Cond.and given_1 narrow_1).before args s = true from hpre))
  obtain ⟨g1, g2⟩ := and_e hg
  obtain ⟨w0, rfl⟩ : ∃ w0 : Value, args = #[w0] := by
    have hs : args.size = 1 := by simpa [Cond.value, given_1] using g1
    obtain ⟨L⟩ := args
    match L, hs with
    | [w0], _ => exact ⟨w0, rfl⟩
  have hw := fun d (hd : d ∈ tables_1) => atoms_spec (ws := Jvm.Cond.code x code maxLocals ret :: tables_1) hat d (List.mem_cons_of_mem _ hd)
  have hfit : Fit s := fun {y c} hc i hi => by
    obtain ⟨ha, rfl⟩ := Array.getElem?_eq_some_iff.mp hc
    have q := List.all_eq_true.mp ((Array.all_eq_true_iff_forall_mem.mp hF) _ (Array.getElem_mem ha)) i (List.mem_range.mpr hi)
    simpa [Array.getElem?_eq_getElem hi] using q
  obtain ⟨i0, ei0⟩ := isL_v g2
  obtain rfl : w0 = (.long i0) := Option.some.inj ei0
  obtain ⟨n, o, h1, h2, h3, _, L, rfl, ⟨rfl, N⟩, hq⟩ := rm0 l s _ hw tables_1 i0 s.heap s.heap.size (Nat.le_refl _)  p e ha hc hk s m _ below hf ((Spec.applies_iff_loose hf).mp happ).1 ⟨rfl, State.Warmed39.refl s, rfl⟩ trivial
  refine ⟨n, _, h1, h2, h3, hpost _ _ _ _ _ _ ⟨Cond.after_iff.mpr rfl, Cond.after_iff.mpr (eq_i res_at (Term.int_eval (1)) rfl), trivial⟩ ⟨hq.1, hq.2.1, (hq.2.2.sift fun y hy => Or.inr (N y hy)).mono (by decide) (by decide)⟩⟩
theorem main_1_1 : Claimed_1_1 := comes_1 fun _ _ _ _ _ _ h hF => ⟨h.1, hF⟩
theorem main_1_2 : Claimed_1_2 := comes_1 fun _ _ _ _ _ _ h hF => ⟨h.2.1, hF⟩
end Jvm.Pilot.@@N@@
namespace Jvm.Pilot.@@N@@
open Jvm Jvm.ClassFile Sem Op Lib Jvm.Free Jvm.Stand Jvm.Pilot.@@N@@.Jvm.D
/-! MADE BY PROGRAM (witnessworld.py) out of the Statement's table words and the real class files: 9 classes; the members and pool entries that the words name. The judged class is class 1, her method 3. -/
namespace start1
open Jvm.ClassFile
def u (s : String) : CpInfo := .utf8 (stringToUtf16 s)
/-- a pool by its gaps: so many unusable entries, then the entry; so many at the end -/
def gap : Nat → List CpInfo → List CpInfo
  | 0, r => r
  | n + 1, r => .unusable :: gap n r
def poolList (es : List (Nat × CpInfo)) (last : Nat) : List CpInfo := es.foldr (fun e r => gap e.1 (e.2 :: r)) (gap last [])
def pool (es : List (Nat × CpInfo)) (last : Nat) : Array CpInfo := ⟨poolList es last⟩
def fileOf (pool : Array CpInfo) (this : Nat) (attrs : Array Attribute := #[]) (ms : Array MethodInfo := #[]) (fl : Nat := 33) (sup : Nat := 0) (ifs : Array Nat := #[]) (fds : Array FieldInfo := #[]) : ClassFile where
  minorVersion := 0
  majorVersion := 65
  constantPool := pool
  accessFlags := fl
  thisClass := this
  superClass := sup
  interfaces := ifs
  fields := fds
  methods := ms
  attributes := attrs
def plain (name : String) (sup : Option ClassId) : Class where
  name := name
  kind := .ordinary
  loader := none
  accessFlags := 33
  super := sup
  interfaces := #[]
  cf := none
  fields := #[]
  methods := #[]
  instanceTypes := #[]
  staticTypes := #[]
  resolved := #[]
  callSites := []
  init := .initialized
  statics := none
  mirror := none

def pool0 : Array CpInfo := pool [(5, u "<init>"), (0, u "()V"), (1, .class_ 10), (1, u "java/lang/Object")] 113

def k0c0 : Code := { maxStack := 0, maxLocals := 1, code := object_method_1_code, exceptionTable := #[], attributes := #[] }
def k0m0 : Method := { name := "<init>", desc := "()V", sig := { parameters := [], returnType := none }, accessFlags := 1, code := some k0c0 }
/-- java/lang/Object -/
def k0 : Class := { plain "java/lang/Object" none with
  accessFlags := 33
  interfaces := #[]
  cf := some (fileOf pool0 8 #[] #[{ accessFlags := 1, nameIndex := 5, descriptorIndex := 6, attributes := #[] }] 33 0 #[] #[])
  fields := #[]
  methods := #[k0m0]
  instanceTypes := #[]
  staticTypes := #[]
  resolved := Array.replicate 124 none
  statics := none }

def pool1 : Array CpInfo := pool [(2, .class_ 4), (1, u "java/lang/Object"), (0, u "<init>"), (0, u "()V"), (0, .long 2), (1, .long 10723151780598845931), (1, .methodref 12 13), (0, .class_ 14), (0, .nameAndType 15 16), (0, u "com/example/dialtone/dialtone/workload/RandomStreamNextLongPinLaw"), (0, u "inv"), (0, u "(J)J"), (0, .long 13787848793156543929), (1, .long 11400714819323198485), (1, .class_ 22), (0, u "com/example/dialtone/dialtone/workload/RandomStream"), (0, .methodref 21 24), (0, .nameAndType 5 25), (0, u "(J)V"), (0, .methodref 21 27), (0, .nameAndType 28 29), (0, u "nextLong"), (0, u "()J"), (0, .methodref 12 31), (0, .nameAndType 32 16), (0, u "unmix"), (2, u "law"), (0, u "(J)Z")] 3

def k1m0 : Method := { name := "<init>", desc := "()V", sig := { parameters := [], returnType := none }, accessFlags := 2, code := none }
def k1c1 : Code := { maxStack := 8, maxLocals := 4, code := method_2_code, exceptionTable := #[], attributes := #[] }
def k1m1 : Method := { name := "inv", desc := "(J)J", sig := { parameters := [.long], returnType := some .long }, accessFlags := 10, code := some k1c1 }
def k1c2 : Code := { maxStack := 5, maxLocals := 4, code := method_3_code, exceptionTable := #[], attributes := #[] }
def k1m2 : Method := { name := "unmix", desc := "(J)J", sig := { parameters := [.long], returnType := some .long }, accessFlags := 10, code := some k1c2 }
def k1c3 : Code := { maxStack := 6, maxLocals := 9, code := code, exceptionTable := #[], attributes := #[] }
def k1m3 : Method := { name := "law", desc := "(J)Z", sig := { parameters := [.long], returnType := some .boolean }, accessFlags := 9, code := some k1c3 }
/-- com/example/dialtone/dialtone/workload/RandomStreamNextLongPinLaw -/
def k1 : Class := { plain "com/example/dialtone/dialtone/workload/RandomStreamNextLongPinLaw" (some 0) with
  accessFlags := 49
  interfaces := #[]
  cf := some (fileOf pool1 12 #[] #[{ accessFlags := 2, nameIndex := 5, descriptorIndex := 6, attributes := #[] }, { accessFlags := 10, nameIndex := 15, descriptorIndex := 16, attributes := #[] }, { accessFlags := 10, nameIndex := 32, descriptorIndex := 16, attributes := #[] }, { accessFlags := 9, nameIndex := 35, descriptorIndex := 36, attributes := #[] }] 49 2 #[] #[])
  fields := #[]
  methods := #[k1m0, k1m1, k1m2, k1m3]
  instanceTypes := #[]
  staticTypes := #[]
  resolved := Array.replicate 40 none
  statics := none }

def pool2 : Array CpInfo := pool [(1, .methodref 2 3), (0, .class_ 4), (0, .nameAndType 5 6), (0, u "java/lang/Object"), (0, u "<init>"), (0, u "()V"), (0, .fieldref 8 9), (0, .class_ 10), (0, .nameAndType 11 12), (0, u "com/example/dialtone/dialtone/workload/RandomStream"), (0, u "state"), (0, u "J"), (0, .long 11400714819323198485), (1, .long 13787848793156543929), (1, .long 10723151780598845931), (3, u "nextLong"), (0, u "()J"), (2, u "(J)V"), (13, u "STEP")] 24

def k2c0 : Code := { maxStack := 3, maxLocals := 3, code := prog_244_method_1_code, exceptionTable := #[], attributes := #[] }
def k2m0 : Method := { name := "<init>", desc := "(J)V", sig := { parameters := [.long], returnType := none }, accessFlags := 1, code := some k2c0 }
def k2c1 : Code := { maxStack := 5, maxLocals := 3, code := prog_244_method_2_code, exceptionTable := #[], attributes := #[] }
def k2m1 : Method := { name := "nextLong", desc := "()J", sig := { parameters := [], returnType := some .long }, accessFlags := 1, code := some k2c1 }
/-- com/example/dialtone/dialtone/workload/RandomStream -/
def k2 : Class := { plain "com/example/dialtone/dialtone/workload/RandomStream" (some 0) with
  accessFlags := 49
  interfaces := #[]
  cf := some (fileOf pool2 8 #[] #[{ accessFlags := 1, nameIndex := 5, descriptorIndex := 25, attributes := #[] }, { accessFlags := 1, nameIndex := 21, descriptorIndex := 22, attributes := #[] }] 49 2 #[] #[{ accessFlags := 26, nameIndex := 39, descriptorIndex := 12, attributes := #[] }, { accessFlags := 2, nameIndex := 11, descriptorIndex := 12, attributes := #[] }])
  fields := #[{ name := "STEP", type := .long, accessFlags := 26, slot := 0, constantValue := 0 }, { name := "state", type := .long, accessFlags := 2, slot := 0, constantValue := 0 }]
  methods := #[k2m0, k2m1]
  instanceTypes := #[.long]
  staticTypes := #[.long]
  resolved := Array.replicate 64 none
  statics := none }

def pool3 : Array CpInfo := pool [(1, u "java/lang/Cloneable"), (0, .class_ 1), (0, u "java/lang/Object"), (0, .class_ 3)] 3

/-- java/lang/Cloneable -/
def k3 : Class := { plain "java/lang/Cloneable" (some 0) with
  accessFlags := 1537
  interfaces := #[]
  cf := some (fileOf pool3 2 #[] #[] 1537 4 #[] #[])
  fields := #[]
  methods := #[]
  instanceTypes := #[]
  staticTypes := #[]
  resolved := Array.replicate 8 none
  statics := none }

def pool4 : Array CpInfo := pool [(1, u "java/io/Serializable"), (0, .class_ 1), (0, u "java/lang/Object"), (0, .class_ 3)] 3

/-- java/io/Serializable -/
def k4 : Class := { plain "java/io/Serializable" (some 0) with
  accessFlags := 1537
  interfaces := #[]
  cf := some (fileOf pool4 2 #[] #[] 1537 4 #[] #[])
  fields := #[]
  methods := #[]
  instanceTypes := #[]
  staticTypes := #[]
  resolved := Array.replicate 8 none
  statics := none }

/-- the primitive byte -/
def k5 : Class := { plain "byte" none with kind := .primitive 'B', accessFlags := 0x411 }
/-- [B -/
def k6 : Class := { plain "[B" (some 0) with kind := .array 5 .byte, interfaces := #[3, 4], accessFlags := 1041 }

/-- the primitive int -/
def k7 : Class := { plain "int" none with kind := .primitive 'I', accessFlags := 0x411 }
/-- [I -/
def k8 : Class := { plain "[I" (some 0) with kind := .array 7 .int, interfaces := #[3, 4], accessFlags := 1041 }

def heap : Heap := #[]
def classes : Array Class := #[k0, k1, k2, k3, k4, k5, k6, k7, k8]
def interned : List (Array UInt16 × Addr) := []
def slotsUsed : Nat := 0
def theMethod : MethodId := ⟨1, 3⟩
def args0 : Array Value := #[.long 5]
def aboutOver (below : List Frame) : State where
  vm := { classes := classes, interned := interned.toArray }
  heap := heap
  slotsUsed := slotsUsed
  threads := #[{ frames := .invoking theMethod args0 :: below }]
def below0 : List Frame := [.native { method := ⟨0, 0⟩, args := #[] }]
def about1 : State := aboutOver below0
def p0 : Program := .bare "" "" ""
def e0 : Env := launch0.env 0 0 0
theorem w_frames : about1.frames = Frame.invoking theMethod args0 :: below0 := rfl
set_option maxRecDepth 65536 in
theorem w_args : argsFit about1.vm theMethod args0 = true := by decide +kernel
set_option maxRecDepth 65536 in
theorem w_heap : heapFits about1 = true := by decide +kernel
set_option maxRecDepth 65536 in
theorem w_runnable : about1.curStatus? = some .runnable := by decide +kernel
set_option maxRecDepth 65536 in
theorem w_alone : about1.alone = true := by decide +kernel
set_option maxRecDepth 65536 in
theorem w_named : about1.methodNamed? x = some theMethod := by decide +kernel
set_option maxRecDepth 65536 in
theorem w_hears : about1.hears theMethod below0 = true := by decide +kernel
set_option maxRecDepth 65536 in
theorem w_ripe : about1.ripe theMethod args0 below0 = true := by decide +kernel
theorem w_running : about1.status = .running := rfl
set_option maxRecDepth 65536 in
theorem w_room : about1.hasRoom e0.platform room_1 = true :=
  launch0.hasRoom_least _ room_1 (by decide +kernel) (by decide +kernel) (by decide +kernel) (by decide +kernel) (by decide +kernel) (by decide +kernel)
theorem allAtoms_all (ts : List Jvm.Cond) (a : Array Jvm.Value) (st : Jvm.State) : (allAtoms ts).before a st = ts.all (fun c => c.before a st) := by
  induction ts with
  | nil => rfl
  | cons c t ih =>
    show (Jvm.Cond.and c (allAtoms t)).before a st = _
    rw [Jvm.Cond.before_and, ih, List.all_cons]
def words1 : List Jvm.Cond := Jvm.Cond.code x code maxLocals ret :: tables_1
/-- a 'code' word, met by the world's own term for the bytes: nothing is compared byte by byte -/
theorem code_word {y : MethodName} {bytes : ByteArray} {mx : Nat} {rt : Option FieldType} {a : Array Value} {s : State} {m : MethodId} {meth : Method} {c : Code} (h1 : s.methodNamed? y = some m) (h2 : s.vm.method? m = some meth) (h3 : meth.code = some c) (h4 : c.code = bytes)
    (h5 : (c.maxLocals == mx && c.exceptionTable.isEmpty && decide (c.maxStack ≤ mostOperands) && decide (meth.sig.returnType = rt) && !meth.locks && decide (parseMethodDescriptor y.desc = some meth.sig)) = true) : (Jvm.Cond.code y bytes mx rt).before a s = true := by
  simp only [Bool.and_eq_true, beq_iff_eq, Bool.not_eq_true', decide_eq_true_eq] at h5
  obtain ⟨⟨⟨⟨⟨g1, g2⟩, g3⟩, g4⟩, g5⟩, g6⟩ := h5
  simp [Cond.before, Cond.holds, Cond.value, h1, h2, h3, h4, g1, g2, g3, g4, g5, g6]
def isCode : Jvm.Cond → Bool
  | .code _ _ _ _ => true
  | _ => false
theorem all_split {L : List Jvm.Cond} {P : Jvm.Cond → Bool} (h1 : L.all (fun c => isCode c || P c) = true) (h2 : ∀ c ∈ L.filter isCode, P c = true) : L.all P = true := by
  refine List.all_eq_true.mpr fun c hc => ?_
  have h := List.all_eq_true.mp h1 c hc
  rcases Bool.eq_false_or_eq_true (isCode c) with hi | hi
  · exact h2 c (List.mem_filter.mpr ⟨hc, hi⟩)
  · simpa [hi] using h
set_option maxRecDepth 65536 in
theorem w_c0 : (Jvm.Cond.code x code maxLocals ret).before args0 about1 = true := code_word (m := ⟨1, 3⟩) (meth := k1m3) (c := k1c3) (by decide +kernel) rfl rfl rfl (by decide +kernel)
set_option maxRecDepth 65536 in
theorem w_c1 : (Jvm.Cond.code ({ cls := "com/example/dialtone/dialtone/workload/RandomStream", name := "<init>", desc := "(J)V" } : Jvm.MethodName) prog_244_method_1_code (3 : Nat) (Option.none : Option Jvm.ClassFile.FieldType)).before args0 about1 = true := code_word (m := ⟨2, 0⟩) (meth := k2m0) (c := k2c0) (by decide +kernel) rfl rfl rfl (by decide +kernel)
set_option maxRecDepth 65536 in
theorem w_c2 : (Jvm.Cond.code ({ cls := "java/lang/Object", name := "<init>", desc := "()V" } : Jvm.MethodName) object_method_1_code (1 : Nat) (Option.none : Option Jvm.ClassFile.FieldType)).before args0 about1 = true := code_word (m := ⟨0, 0⟩) (meth := k0m0) (c := k0c0) (by decide +kernel) rfl rfl rfl (by decide +kernel)
set_option maxRecDepth 65536 in
theorem w_c3 : (Jvm.Cond.code ({ cls := "com/example/dialtone/dialtone/workload/RandomStream", name := "nextLong", desc := "()J" } : Jvm.MethodName) prog_244_method_2_code (3 : Nat) (Option.some Jvm.ClassFile.FieldType.long)).before args0 about1 = true := code_word (m := ⟨2, 1⟩) (meth := k2m1) (c := k2c1) (by decide +kernel) rfl rfl rfl (by decide +kernel)
set_option maxRecDepth 65536 in
theorem w_c4 : (Jvm.Cond.code ({ cls := "com/example/dialtone/dialtone/workload/RandomStreamNextLongPinLaw", name := "unmix", desc := "(J)J" } : Jvm.MethodName) method_3_code (4 : Nat) (Option.some Jvm.ClassFile.FieldType.long)).before args0 about1 = true := code_word (m := ⟨1, 2⟩) (meth := k1m2) (c := k1c2) (by decide +kernel) rfl rfl rfl (by decide +kernel)
set_option maxRecDepth 65536 in
theorem w_c5 : (Jvm.Cond.code ({ cls := "com/example/dialtone/dialtone/workload/RandomStreamNextLongPinLaw", name := "inv", desc := "(J)J" } : Jvm.MethodName) method_2_code (4 : Nat) (Option.some Jvm.ClassFile.FieldType.long)).before args0 about1 = true := code_word (m := ⟨1, 1⟩) (meth := k1m1) (c := k1c1) (by decide +kernel) rfl rfl rfl (by decide +kernel)
def codes1 : List Jvm.Cond := [Jvm.Cond.code x code maxLocals ret, Jvm.Cond.code ({ cls := "com/example/dialtone/dialtone/workload/RandomStream", name := "<init>", desc := "(J)V" } : Jvm.MethodName) prog_244_method_1_code (3 : Nat) (Option.none : Option Jvm.ClassFile.FieldType), Jvm.Cond.code ({ cls := "java/lang/Object", name := "<init>", desc := "()V" } : Jvm.MethodName) object_method_1_code (1 : Nat) (Option.none : Option Jvm.ClassFile.FieldType), Jvm.Cond.code ({ cls := "com/example/dialtone/dialtone/workload/RandomStream", name := "nextLong", desc := "()J" } : Jvm.MethodName) prog_244_method_2_code (3 : Nat) (Option.some Jvm.ClassFile.FieldType.long), Jvm.Cond.code ({ cls := "com/example/dialtone/dialtone/workload/RandomStreamNextLongPinLaw", name := "unmix", desc := "(J)J" } : Jvm.MethodName) method_3_code (4 : Nat) (Option.some Jvm.ClassFile.FieldType.long), Jvm.Cond.code ({ cls := "com/example/dialtone/dialtone/workload/RandomStreamNextLongPinLaw", name := "inv", desc := "(J)J" } : Jvm.MethodName) method_2_code (4 : Nat) (Option.some Jvm.ClassFile.FieldType.long)]
set_option maxRecDepth 65536 in
theorem codes_eq : words1.filter isCode = codes1 := rfl
theorem w_codes : ∀ c ∈ words1.filter isCode, c.before args0 about1 = true := by
  rw [codes_eq]
  intro c hc
  simp only [codes1, List.mem_cons, List.not_mem_nil, or_false] at hc
  rcases hc with rfl | rfl | rfl | rfl | rfl | rfl
  · exact w_c0
  · exact w_c1
  · exact w_c2
  · exact w_c3
  · exact w_c4
  · exact w_c5
set_option maxRecDepth 65536 in
theorem w_t1 : (words1.take 24).all (fun c => isCode c || c.before args0 about1) = true := by decide +kernel
set_option maxRecDepth 65536 in
theorem w_t2 : (words1.drop 24).all (fun c => isCode c || c.before args0 about1) = true := by decide +kernel
theorem w_tables : (allAtoms (Jvm.Cond.code x code maxLocals ret :: tables_1)).before args0 about1 = true := by
  rw [allAtoms_all]
  show words1.all (fun c => c.before args0 about1) = true
  refine all_split ?_ w_codes
  rw [← List.take_append_drop 24 words1, List.all_append, w_t1, w_t2]
  rfl
set_option maxRecDepth 65536 in
theorem w_case : (Jvm.Cond.and given_1 narrow_1).before args0 about1 = true := by decide +kernel
theorem w_applies : (headSpec (Jvm.Cond.code x code maxLocals ret :: tables_1) room_1).applies x e0.platform about1 = true :=
  (Spec.applies_iff w_frames).mpr ⟨w_running, w_runnable, w_alone, w_named, w_hears, w_ripe, w_room, w_tables⟩
theorem atStart : AtStart classFile x code maxLocals ret World_1 tables_1 room_1 Calls_1 rest_1 Pre_1 launch0 p0 e0 about1 theMethod args0 below0 :=
  ⟨lists_1, trivial, launch0.admits_env _ _ _, launch0.least_env, fairChoices_fair.cas, fairChoices_fair.clock, w_frames, w_args, w_heap, w_applies, trivial, trivial, w_case⟩
end start1
theorem witness_1 : WitnessClaimed_1 := ⟨start1.p0, start1.e0, start1.about1, start1.theMethod, start1.args0, start1.below0, start1.atStart⟩
end Jvm.Pilot.@@N@@
