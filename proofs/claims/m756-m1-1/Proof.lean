import JvmDerived
import JvmDerived.Pilot.@@N@@Statement
import JvmDerived.Pilot.@@N@@Code
set_option linter.unusedVariables false
set_option linter.unusedSimpArgs false
namespace Jvm.Pilot.@@N@@
open Jvm Jvm.ClassFile Sem Op Lib Jvm.Free Jvm.Stand Jvm.LawKit Jvm.RoadKit Bundle Jvm.Pilot.@@N@@.Jvm.D
/-- from the state A the run comes to an end of which R holds -/
def own_Fin (tb : Tables) (e : Env) (below : List Frame) (A : State) (R : State → Outcome → Prop) : Prop := ∃ s₂ o, Steps tb e below A s₂ ∧ R s₂ o
theorem own_in {tb : Tables} {e : Env} {below : List Frame} {A : State} {R : State → Outcome → Prop} (h : own_Fin tb e below A R) : ∃ s₂ o, Steps tb e below A s₂ ∧ R s₂ o := h
theorem own_go {tb : Tables} {e : Env} {below : List Frame} {A B : State} {R : State → Outcome → Prop} (st : ∀ t, Steps tb e below B t → Steps tb e below A t) (h : own_Fin tb e below B R) : own_Fin tb e below A R := by
  obtain ⟨s₂, o, h1, h2⟩ := h
  exact ⟨s₂, o, st _ h1, h2⟩
theorem own_beqT {P : Prop} [Decidable P] (h : ¬ P) : ifCond.holds .eq (if P then (1 : Int32) else 0) = true := by rw [if_neg h]; rfl
theorem own_beqF {P : Prop} [Decidable P] (h : P) : ifCond.holds .eq (if P then (1 : Int32) else 0) = false := by rw [if_pos h]; rfl
theorem own_bneT {P : Prop} [Decidable P] (h : P) : ifCond.holds .ne (if P then (1 : Int32) else 0) = true := by rw [if_pos h]; rfl
theorem own_bneF {P : Prop} [Decidable P] (h : ¬ P) : ifCond.holds .ne (if P then (1 : Int32) else 0) = false := by rw [if_neg h]; rfl
theorem own_bEq {P R : Prop} [Decidable P] [Decidable R] (h : P ↔ R) : (if P then (1 : Int32) else 0) = (if R then (1 : Int32) else 0) := by
  by_cases p : P
  · rw [if_pos p, if_pos (h.mp p)]
  · rw [if_neg p, if_neg fun r => p (h.mpr r)]
theorem own_bNe {P R : Prop} [Decidable P] [Decidable R] (h : ¬ (P ↔ R)) : ¬ (if P then (1 : Int32) else 0) = (if R then (1 : Int32) else 0) := by
  intro q
  apply h
  by_cases p : P <;> by_cases r : R
  · exact ⟨fun _ => r, fun _ => p⟩
  · rw [if_pos p, if_neg r] at q; exact absurd q (by decide)
  · rw [if_neg p, if_pos r] at q; exact absurd q (by decide)
  · exact ⟨fun x => absurd x p, fun x => absurd x r⟩
theorem own_fitB {P : Prop} [Decidable P] : fits .boolean (.int (if P then (1 : Int32) else 0)) = true := by by_cases p : P <;> simp only [p, if_true, if_false] <;> rfl
theorem own_narB {P : Prop} [Decidable P] : narrow .boolean (.int (if P then (1 : Int32) else 0)) = .int (if P then (1 : Int32) else 0) := by by_cases p : P <;> simp only [p, if_true, if_false] <;> rfl
theorem own_law (a b : Int32) : a.toInt64 * b.toInt64 = a.toInt64 * (b >>> ((16 : Int32) &&& 31)).toInt64 * (65536 : Int64) + a.toInt64 * (b &&& (65535 : Int32)).toInt64 := by
  have e1 := c_ishr b 16 16 (by decide)
  have e2 := c_mask b 65535 16 (by decide) (by decide)
  have l4 : ((2 ^ 16 : Nat) : Int) = 65536 := by decide
  rw [l4] at e1 e2
  have l5 : (65536 : Int64).toInt = 65536 := by decide
  have hb : b.toInt64 = (b >>> ((16 : Int32) &&& 31)).toInt64 * (65536 : Int64) + (b &&& (65535 : Int32)).toInt64 := by
    apply Int64.toInt_inj.mp
    have q1 := c_ladd ((b >>> ((16 : Int32) &&& 31)).toInt64 * (65536 : Int64)) ((b &&& (65535 : Int32)).toInt64)
    have q2 := c_lmul ((b >>> ((16 : Int32) &&& 31)).toInt64) (65536 : Int64)
    have r1 := rng64 ((b >>> ((16 : Int32) &&& 31)).toInt64 * (65536 : Int64) + (b &&& (65535 : Int32)).toInt64)
    have r3 := rng32 b
    rw [l5] at q2
    rw [c_i2l] at q1 q2 ⊢
    rw [e1] at q2
    rw [e2] at q1
    omega
  calc a.toInt64 * b.toInt64 = a.toInt64 * ((b >>> ((16 : Int32) &&& 31)).toInt64 * (65536 : Int64) + (b &&& (65535 : Int32)).toInt64) := by rw [← hb]
    _ = _ := by rw [Int64.mul_add, Int64.mul_assoc]
theorem d1_0 : decode prog_13_method_1_code 0 = .ok (.aload_n 0, 1) := by decide +kernel
theorem d1_1 : decode prog_13_method_1_code 1 = .ok (.invokespecial 1, 3) := by decide +kernel
theorem d1_4 : decode prog_13_method_1_code 4 = .ok (.aload_n 0, 1) := by decide +kernel
theorem d1_5 : decode prog_13_method_1_code 5 = .ok (.iload_n 1, 1) := by decide +kernel
theorem d1_6 : decode prog_13_method_1_code 6 = .ok (.putfield 7, 3) := by decide +kernel
theorem d1_9 : decode prog_13_method_1_code 9 = .ok (.aload_n 0, 1) := by decide +kernel
theorem d1_10 : decode prog_13_method_1_code 10 = .ok (.iload_n 2, 1) := by decide +kernel
theorem d1_11 : decode prog_13_method_1_code 11 = .ok (.putfield 13, 3) := by decide +kernel
theorem d1_14 : decode prog_13_method_1_code 14 = .ok (.aload_n 0, 1) := by decide +kernel
theorem d1_15 : decode prog_13_method_1_code 15 = .ok (.iload_n 3, 1) := by decide +kernel
theorem d1_16 : decode prog_13_method_1_code 16 = .ok (.putfield 16, 3) := by decide +kernel
theorem d1_19 : decode prog_13_method_1_code 19 = .ok (.aload_n 0, 1) := by decide +kernel
theorem d1_20 : decode prog_13_method_1_code 20 = .ok (.lload 4, 2) := by decide +kernel
theorem d1_22 : decode prog_13_method_1_code 22 = .ok (.putfield 19, 3) := by decide +kernel
theorem d1_25 : decode prog_13_method_1_code 25 = .ok (.return_, 1) := by decide +kernel
theorem pn1 : plainName "com/example/broker_load_test/brokerloadtest/model/ConnectionRun" = true := by first | (simp [plainName, overriddenIn]; done) | decide +kernel
theorem ef1 (m : MethodId) (r0 : Addr) (p1 : Int32) (p2 : Int32) (p3 : Int32) (q4 : Int64) : entryFrame m #[(.ref r0), (.int p1), (.int p2), (.int p3), (.long q4)] 6 = mkF m 0 #[.val (.ref r0), .val (.int p1), .val (.int p2), .val (.int p3), .val (.long q4), .second] [] := by first | (simp [entryFrame, mkF, argsToLocals, Value.category]; done) | rfl
def Q1 (Z : State) (r0 : Addr) (p1 : Int32) (p2 : Int32) (p3 : Int32) (q4 : Int64) (h0 : Heap) (n0 : Nat) (v : Option Value) (h : Heap) (L : List Loc) : Prop := v = none ∧ Fr n0 L ∧ Keep h0 h [r0] ∧ Exa Z h r0 "com/example/broker_load_test/brokerloadtest/model/ConnectionRun" ∧ Fld Z h r0 "com/example/broker_load_test/brokerloadtest/model/ConnectionRun" "sets" "I" (.int p2) ∧ Fld Z h r0 "com/example/broker_load_test/brokerloadtest/model/ConnectionRun" "endpoints" "I" (.int p3)
set_option maxRecDepth 65536 in
set_option maxHeartbeats 40000000 in
theorem rm1 (l : Launch) (Z : State) (a0 : Array Value) (hw : ∀ d ∈ tables_1, d.before a0 Z = true) (ws : List Jvm.Cond) (r0 : Addr) (p1 : Int32) (p2 : Int32) (p3 : Int32) (q4 : Int64) (h0 : Heap) (n0 : Nat) (Z0 : n0 ≤ h0.size) (E_r0 : Exa Z h0 r0 "com/example/broker_load_test/brokerloadtest/model/ConnectionRun") (g_r0 : n0 ≤ r0) (F_number_r0 : Fld Z h0 r0 "com/example/broker_load_test/brokerloadtest/model/ConnectionRun" "number" "I" (.int (0 : Int32))) (F_sets_r0 : Fld Z h0 r0 "com/example/broker_load_test/brokerloadtest/model/ConnectionRun" "sets" "I" (.int (0 : Int32))) (F_endpoints_r0 : Fld Z h0 r0 "com/example/broker_load_test/brokerloadtest/model/ConnectionRun" "endpoints" "I" (.int (0 : Int32))) (F_deadlineSeconds_r0 : Fld Z h0 r0 "com/example/broker_load_test/brokerloadtest/model/ConnectionRun" "deadlineSeconds" "J" (.long (0 : Int64))) :
    MetFree l (⟨"com/example/broker_load_test/brokerloadtest/model/ConnectionRun", "<init>", "(IIIJ)V"⟩ : MethodName) (head1 (Jvm.Cond.code (⟨"com/example/broker_load_test/brokerloadtest/model/ConnectionRun", "<init>", "(IIIJ)V"⟩ : MethodName) prog_13_method_1_code 6 none :: ws) ({ frames := 1, cells := 0, slots := 0, locals := 12 } : Room)) (fun a U => a = #[(.ref r0), (.int p1), (.int p2), (.int p3), (.long q4)] ∧ Z.Warmed39 U.vm ∧ U.heap = h0) (fun _ _ _ _ _ => True) (fun _ U o U' => ∃ v L, o = .returned v ∧ Q1 Z r0 p1 p2 p3 q4 h0 n0 v U'.heap L ∧ FrameEnd U o U' L ({ frames := 1, cells := 0, slots := 0, locals := 12 } : Room).cells ({ frames := 1, cells := 0, slots := 0, locals := 12 } : Room).slots) := by
  refine MetFree.of_bodySF (plainFor_of_name pn1) hisR ?_
  intro p e s m args below meth c s₁ Bd hml0 hP hK
  obtain ⟨rfl, hZ, hh⟩ := hP
  have hx := Bd.exec
  have hby := Bd.bytes
  have hml : c.maxLocals = 6 := hml0
  have hown : s.vm.findClass "com/example/broker_load_test/brokerloadtest/model/ConnectionRun" = some m.cls := findClass_of_methodNamed Bd.named
  have hnm := (name_of_methodNamed Bd.named Bd.method).1
  have X0 : Stand p l e ({ frames := 1, cells := 0, slots := 0, locals := 12 } : Room) s m #[(.ref r0), (.int p1), (.int p2), (.int p3), (.long q4)] below meth c s₁ [] 0 0 := Stand.of_body Bd
  have e0 : s₁.heap = h0 := by rw [← hh, Bd.state]; rfl
  have N0 := Fr.nil n0
  have K0 : Keep h0 h0 [r0] := Keep.refl h0 _
  refine own_in ?_
  refine own_go (B := s₁.setTop (mkF m 0 #[.val (.ref r0), .val (.int p1), .val (.int p2), .val (.int p3), .val (.long q4), .second] [])) (fun t k => castTop (ef1 m r0 p1 p2 p3 q4) k) ?_
  refine own_go (B := s₁.setTop (mkF m 1 #[.val (.ref r0), .val (.int p1), .val (.int p2), .val (.int p3), .val (.long q4), .second] [(.ref r0)])) (fun t k => ?_) ?_
  · show Steps p.tables e below (s₁.setTop (mkF m 0 #[.val (.ref r0), .val (.int p1), .val (.int p2), .val (.int p3), .val (.long q4), .second] [])) t
    refine XS.aloadN X0.here hx rfl (hb hby d1_0) rfl rfl ?_
    exact k
  obtain ⟨T1, X1, e1, st1⟩ := initO X0 hx hZ hown (hw _ (List.mem_of_getElem? (i := 6) rfl)) (hw _ (List.mem_of_getElem? (i := 7) rfl)) (hw _ (List.mem_of_getElem? (i := 8) rfl)) e0 (g := (mkF m 1 #[.val (.ref r0), .val (.int p1), .val (.int p2), .val (.int p3), .val (.long q4), .second] [(.ref r0)])) rfl (by rw [hml]; rfl) rfl (hb hby d1_1) (by decide) (W := 0) (by show 2 * 0 + _ ≤ _; exact Nat.le_of_eq rfl) (by decide)
  refine own_go st1 ?_
  show own_Fin p.tables e below (T1.setTop (mkF m 4 #[.val (.ref r0), .val (.int p1), .val (.int p2), .val (.int p3), .val (.long q4), .second] [])) _
  refine own_go (B := T1.setTop (mkF m 6 #[.val (.ref r0), .val (.int p1), .val (.int p2), .val (.int p3), .val (.long q4), .second] [(.int p1), (.ref r0)])) (fun t k => ?_) ?_
  · show Steps p.tables e below (T1.setTop (mkF m 4 #[.val (.ref r0), .val (.int p1), .val (.int p2), .val (.int p3), .val (.long q4), .second] [])) t
    refine XS.aloadN X1.here hx rfl (hb hby d1_4) rfl rfl ?_
    refine XS.iloadN X1.here hx rfl (hb hby d1_5) rfl ?_
    exact k
  obtain ⟨T2, h2, X2, e2, W2, st2⟩ := putF X1 hx hZ hown (host := "") (Or.inl (hw _ (List.mem_of_getElem? (i := 9) rfl))) Via.refl e1 F_number_r0 E_r0 (Or.inr ⟨(hw _ (List.mem_of_getElem? (i := 10) rfl)), rfl, hnm⟩) (hw _ (List.mem_of_getElem? (i := 1) rfl)) (ty := .int) (by decide) rfl rfl (g := (mkF m 6 #[.val (.ref r0), .val (.int p1), .val (.int p2), .val (.int p3), .val (.long q4), .second] [(.int p1), (.ref r0)])) rfl rfl (hb hby d1_6)
  have N2 := Fr.snoc X2 N0 g_r0
  have K2 : Keep h0 h2 [r0] := K0.wr W2 (Or.inl (by simp))
  have Fw2 := F_number_r0.same W2
  refine own_go st2 ?_
  show own_Fin p.tables e below (T2.setTop (mkF m 9 #[.val (.ref r0), .val (.int p1), .val (.int p2), .val (.int p3), .val (.long q4), .second] [])) _
  refine own_go (B := T2.setTop (mkF m 11 #[.val (.ref r0), .val (.int p1), .val (.int p2), .val (.int p3), .val (.long q4), .second] [(.int p2), (.ref r0)])) (fun t k => ?_) ?_
  · show Steps p.tables e below (T2.setTop (mkF m 9 #[.val (.ref r0), .val (.int p1), .val (.int p2), .val (.int p3), .val (.long q4), .second] [])) t
    refine XS.aloadN X2.here hx rfl (hb hby d1_9) rfl rfl ?_
    refine XS.iloadN X2.here hx rfl (hb hby d1_10) rfl ?_
    exact k
  have f4 := (F_sets_r0.other W2 (Or.inr (slot_ne (Or.inr (hw _ (List.mem_of_getElem? (i := 12) rfl))) (Or.inr (hw _ (List.mem_of_getElem? (i := 10) rfl))) (by decide) (t := .int) (t' := .int) (by decide) (by decide))))
  have f5 := (E_r0.wr W2)
  obtain ⟨T3, h3, X3, e3, W3, st3⟩ := putF X2 hx hZ hown (host := "") (Or.inl (hw _ (List.mem_of_getElem? (i := 11) rfl))) Via.refl e2 f4 f5 (Or.inr ⟨(hw _ (List.mem_of_getElem? (i := 12) rfl)), rfl, hnm⟩) (hw _ (List.mem_of_getElem? (i := 1) rfl)) (ty := .int) (by decide) rfl rfl (g := (mkF m 11 #[.val (.ref r0), .val (.int p1), .val (.int p2), .val (.int p3), .val (.long q4), .second] [(.int p2), (.ref r0)])) rfl rfl (hb hby d1_11)
  have N3 := Fr.snoc X3 N2 g_r0
  have K3 : Keep h0 h3 [r0] := K2.wr W3 (Or.inl (by simp))
  have Fw3 := f4.same W3
  refine own_go st3 ?_
  show own_Fin p.tables e below (T3.setTop (mkF m 14 #[.val (.ref r0), .val (.int p1), .val (.int p2), .val (.int p3), .val (.long q4), .second] [])) _
  refine own_go (B := T3.setTop (mkF m 16 #[.val (.ref r0), .val (.int p1), .val (.int p2), .val (.int p3), .val (.long q4), .second] [(.int p3), (.ref r0)])) (fun t k => ?_) ?_
  · show Steps p.tables e below (T3.setTop (mkF m 14 #[.val (.ref r0), .val (.int p1), .val (.int p2), .val (.int p3), .val (.long q4), .second] [])) t
    refine XS.aloadN X3.here hx rfl (hb hby d1_14) rfl rfl ?_
    refine XS.iloadN X3.here hx rfl (hb hby d1_15) rfl ?_
    exact k
  have f7 := ((F_endpoints_r0.other W2 (Or.inr (slot_ne (Or.inr (hw _ (List.mem_of_getElem? (i := 14) rfl))) (Or.inr (hw _ (List.mem_of_getElem? (i := 10) rfl))) (by decide) (t := .int) (t' := .int) (by decide) (by decide)))).other W3 (Or.inr (slot_ne (Or.inr (hw _ (List.mem_of_getElem? (i := 14) rfl))) (Or.inr (hw _ (List.mem_of_getElem? (i := 12) rfl))) (by decide) (t := .int) (t' := .int) (by decide) (by decide))))
  have f8 := (f5.wr W3)
  obtain ⟨T6, h6, X6, e6, W6, st6⟩ := putF X3 hx hZ hown (host := "") (Or.inl (hw _ (List.mem_of_getElem? (i := 13) rfl))) Via.refl e3 f7 f8 (Or.inr ⟨(hw _ (List.mem_of_getElem? (i := 14) rfl)), rfl, hnm⟩) (hw _ (List.mem_of_getElem? (i := 1) rfl)) (ty := .int) (by decide) rfl rfl (g := (mkF m 16 #[.val (.ref r0), .val (.int p1), .val (.int p2), .val (.int p3), .val (.long q4), .second] [(.int p3), (.ref r0)])) rfl rfl (hb hby d1_16)
  have N6 := Fr.snoc X6 N3 g_r0
  have K6 : Keep h0 h6 [r0] := K3.wr W6 (Or.inl (by simp))
  have Fw6 := f7.same W6
  refine own_go st6 ?_
  show own_Fin p.tables e below (T6.setTop (mkF m 19 #[.val (.ref r0), .val (.int p1), .val (.int p2), .val (.int p3), .val (.long q4), .second] [])) _
  refine own_go (B := T6.setTop (mkF m 22 #[.val (.ref r0), .val (.int p1), .val (.int p2), .val (.int p3), .val (.long q4), .second] [(.long q4), (.ref r0)])) (fun t k => ?_) ?_
  · show Steps p.tables e below (T6.setTop (mkF m 19 #[.val (.ref r0), .val (.int p1), .val (.int p2), .val (.int p3), .val (.long q4), .second] [])) t
    refine XS.aloadN X6.here hx rfl (hb hby d1_19) rfl rfl ?_
    refine XS.lload X6.here hx rfl (hb hby d1_20) rfl ?_
    exact k
  have f10 := (((F_deadlineSeconds_r0.other W2 (Or.inr (slot_ne (Or.inr (hw _ (List.mem_of_getElem? (i := 16) rfl))) (Or.inr (hw _ (List.mem_of_getElem? (i := 10) rfl))) (by decide) (t := .long) (t' := .int) (by decide) (by decide)))).other W3 (Or.inr (slot_ne (Or.inr (hw _ (List.mem_of_getElem? (i := 16) rfl))) (Or.inr (hw _ (List.mem_of_getElem? (i := 12) rfl))) (by decide) (t := .long) (t' := .int) (by decide) (by decide)))).other W6 (Or.inr (slot_ne (Or.inr (hw _ (List.mem_of_getElem? (i := 16) rfl))) (Or.inr (hw _ (List.mem_of_getElem? (i := 14) rfl))) (by decide) (t := .long) (t' := .int) (by decide) (by decide))))
  have f11 := (f8.wr W6)
  obtain ⟨T9, h9, X9, e9, W9, st9⟩ := putF X6 hx hZ hown (host := "") (Or.inl (hw _ (List.mem_of_getElem? (i := 15) rfl))) Via.refl e6 f10 f11 (Or.inr ⟨(hw _ (List.mem_of_getElem? (i := 16) rfl)), rfl, hnm⟩) (hw _ (List.mem_of_getElem? (i := 1) rfl)) (ty := .long) (by decide) rfl rfl (g := (mkF m 22 #[.val (.ref r0), .val (.int p1), .val (.int p2), .val (.int p3), .val (.long q4), .second] [(.long q4), (.ref r0)])) rfl rfl (hb hby d1_22)
  have N9 := Fr.snoc X9 N6 g_r0
  have K9 : Keep h0 h9 [r0] := K6.wr W9 (Or.inl (by simp))
  have Fw9 := f10.same W9
  refine own_go st9 ?_
  show own_Fin p.tables e below (T9.setTop (mkF m 25 #[.val (.ref r0), .val (.int p1), .val (.int p2), .val (.int p3), .val (.long q4), .second] [])) _
  obtain ⟨fs, hr, hrun, hended, hW, hsame⟩ := X9.leave (v := none) (fun _ => rfl)
  refine ⟨_, _, ?_, hrun, hended, _, _, rfl, ?_, ⟨_, rfl⟩, hW, hsame.mono (by decide) (by decide)⟩
  · exact X9.returnOut hx Bd.returns (hb hby d1_25) hr
  · show Q1 Z r0 p1 p2 p3 q4 h0 n0 _ T9.heap _
    rw [e9]
    have f13 := (f11.wr W9)
    have f14 := ((Fw3.other W6 (Or.inr (slot_ne (Or.inr (hw _ (List.mem_of_getElem? (i := 12) rfl))) (Or.inr (hw _ (List.mem_of_getElem? (i := 14) rfl))) (by decide) (t := .int) (t' := .int) (by decide) (by decide)))).other W9 (Or.inr (slot_ne (Or.inr (hw _ (List.mem_of_getElem? (i := 12) rfl))) (Or.inr (hw _ (List.mem_of_getElem? (i := 16) rfl))) (by decide) (t := .int) (t' := .long) (by decide) (by decide))))
    have f15 := (Fw6.other W9 (Or.inr (slot_ne (Or.inr (hw _ (List.mem_of_getElem? (i := 14) rfl))) (Or.inr (hw _ (List.mem_of_getElem? (i := 16) rfl))) (by decide) (t := .int) (t' := .long) (by decide) (by decide))))
    exact ⟨rfl, N9, K9, f13, f14, f15⟩
theorem d2_0 : decode prog_13_method_5_code 0 = .ok (.aload_n 0, 1) := by decide +kernel
theorem d2_1 : decode prog_13_method_5_code 1 = .ok (.getfield 13, 3) := by decide +kernel
theorem d2_4 : decode prog_13_method_5_code 4 = .ok (.i2l, 1) := by decide +kernel
theorem d2_5 : decode prog_13_method_5_code 5 = .ok (.aload_n 0, 1) := by decide +kernel
theorem d2_6 : decode prog_13_method_5_code 6 = .ok (.getfield 16, 3) := by decide +kernel
theorem d2_9 : decode prog_13_method_5_code 9 = .ok (.i2l, 1) := by decide +kernel
theorem d2_10 : decode prog_13_method_5_code 10 = .ok (.lmul, 1) := by decide +kernel
theorem d2_11 : decode prog_13_method_5_code 11 = .ok (.lreturn, 1) := by decide +kernel
theorem pn2 : plainName "com/example/broker_load_test/brokerloadtest/model/ConnectionRun" = true := by first | (simp [plainName, overriddenIn]; done) | decide +kernel
theorem ef2 (m : MethodId) (r0 : Addr) : entryFrame m #[(.ref r0)] 1 = mkF m 0 #[.val (.ref r0)] [] := by first | (simp [entryFrame, mkF, argsToLocals, Value.category]; done) | rfl
def Q2 (Z : State) (r0 : Addr) (u : Int32) (z : Int32) (h0 : Heap) (n0 : Nat) (v : Option Value) (h : Heap) (L : List Loc) : Prop := v = some (.long (u.toInt64 * z.toInt64)) ∧ Fr n0 L ∧ h = h0
set_option maxRecDepth 65536 in
set_option maxHeartbeats 40000000 in
theorem rm2 (l : Launch) (Z : State) (a0 : Array Value) (hw : ∀ d ∈ tables_1, d.before a0 Z = true) (ws : List Jvm.Cond) (r0 : Addr) (u : Int32) (z : Int32) (h0 : Heap) (n0 : Nat) (Z0 : n0 ≤ h0.size) (F_sets : Fld Z h0 r0 "com/example/broker_load_test/brokerloadtest/model/ConnectionRun" "sets" "I" (.int u)) (F_end : Fld Z h0 r0 "com/example/broker_load_test/brokerloadtest/model/ConnectionRun" "endpoints" "I" (.int z)) :
    MetFree l (⟨"com/example/broker_load_test/brokerloadtest/model/ConnectionRun", "getClients", "()J"⟩ : MethodName) (head1 (Jvm.Cond.code (⟨"com/example/broker_load_test/brokerloadtest/model/ConnectionRun", "getClients", "()J"⟩ : MethodName) prog_13_method_5_code 1 (some .long) :: ws) ({ frames := 0, cells := 0, slots := 0, locals := 0 } : Room)) (fun a U => a = #[(.ref r0)] ∧ Z.Warmed39 U.vm ∧ U.heap = h0) (fun _ _ _ _ _ => True) (fun _ U o U' => ∃ v L, o = .returned v ∧ Q2 Z r0 u z h0 n0 v U'.heap L ∧ FrameEnd U o U' L ({ frames := 0, cells := 0, slots := 0, locals := 0 } : Room).cells ({ frames := 0, cells := 0, slots := 0, locals := 0 } : Room).slots) := by
  refine MetFree.of_bodySF (plainFor_of_name pn2) hisR ?_
  intro p e s m args below meth c s₁ Bd hml0 hP hK
  obtain ⟨rfl, hZ, hh⟩ := hP
  have hx := Bd.exec
  have hby := Bd.bytes
  have hml : c.maxLocals = 1 := hml0
  have hown : s.vm.findClass "com/example/broker_load_test/brokerloadtest/model/ConnectionRun" = some m.cls := findClass_of_methodNamed Bd.named
  have hnm := (name_of_methodNamed Bd.named Bd.method).1
  have X0 : Stand p l e ({ frames := 0, cells := 0, slots := 0, locals := 0 } : Room) s m #[(.ref r0)] below meth c s₁ [] 0 0 := Stand.of_body Bd
  have e0 : s₁.heap = h0 := by rw [← hh, Bd.state]; rfl
  have N0 := Fr.nil n0
  have K0 : Keep h0 h0 [] := Keep.refl h0 _
  refine own_in ?_
  refine own_go (B := s₁.setTop (mkF m 0 #[.val (.ref r0)] [])) (fun t k => castTop (ef2 m r0) k) ?_
  refine own_go (B := s₁.setTop (mkF m 1 #[.val (.ref r0)] [(.ref r0)])) (fun t k => ?_) ?_
  · show Steps p.tables e below (s₁.setTop (mkF m 0 #[.val (.ref r0)] [])) t
    refine XS.aloadN X0.here hx rfl (hb hby d2_0) rfl rfl ?_
    exact k
  obtain ⟨T1, X1, e1, st1⟩ := getF X0 hx hZ hown (host := "") (Or.inl (hw _ (List.mem_of_getElem? (i := 11) rfl))) Via.refl e0 F_sets (g := (mkF m 1 #[.val (.ref r0)] [(.ref r0)])) rfl rfl (hb hby d2_1)
  refine own_go st1 ?_
  show own_Fin p.tables e below (T1.setTop (mkF m 4 #[.val (.ref r0)] [(.int u)])) _
  refine own_go (B := T1.setTop (mkF m 6 #[.val (.ref r0)] [(.ref r0), (.long (u.toInt64))])) (fun t k => ?_) ?_
  · show Steps p.tables e below (T1.setTop (mkF m 4 #[.val (.ref r0)] [(.int u)])) t
    refine XS.i2l X1.here hx rfl (hb hby d2_4) rfl ?_
    refine XS.aloadN X1.here hx rfl (hb hby d2_5) rfl rfl ?_
    exact k
  obtain ⟨T2, X2, e2, st2⟩ := getF X1 hx hZ hown (host := "") (Or.inl (hw _ (List.mem_of_getElem? (i := 13) rfl))) Via.refl e1 F_end (g := (mkF m 6 #[.val (.ref r0)] [(.ref r0), (.long (u.toInt64))])) rfl rfl (hb hby d2_6)
  refine own_go st2 ?_
  show own_Fin p.tables e below (T2.setTop (mkF m 9 #[.val (.ref r0)] [(.int z), (.long (u.toInt64))])) _
  refine own_go (B := T2.setTop (mkF m 11 #[.val (.ref r0)] [(.long ((u.toInt64) * (z.toInt64)))])) (fun t k => ?_) ?_
  · show Steps p.tables e below (T2.setTop (mkF m 9 #[.val (.ref r0)] [(.int z), (.long (u.toInt64))])) t
    refine XS.i2l X2.here hx rfl (hb hby d2_9) rfl ?_
    refine XS.lmul X2.here hx rfl (hb hby d2_10) rfl ?_
    exact k
  obtain ⟨fs, hr, hrun, hended, hW, hsame⟩ := X2.leave (v := some (.long ((u.toInt64) * (z.toInt64)))) (fun h => by rw [Bd.returns] at h; cases h)
  refine ⟨_, _, ?_, hrun, hended, _, _, rfl, ?_, ⟨_, rfl⟩, hW, hsame.mono (by decide) (by decide)⟩
  · exact retOut X2 hx (t := .long) Bd.returns rfl (Or.inr (Or.inl ⟨rfl, rfl, _, rfl⟩)) (hb hby d2_11) hr
  · show Q2 Z r0 u z h0 n0 _ T2.heap _
    rw [e2]
    exact ⟨rfl, N0, rfl⟩
theorem pn0 : plainName "com/example/broker_load_test/brokerloadtest/model/ConnectionRunGetClientsPinLaw" = true := by first | (simp [plainName, overriddenIn]; done) | decide +kernel
theorem pd0_0 : parseMethodDescriptor "(IIIJ)V" = some ⟨[.int, .int, .int, .long], none⟩ := by decide +kernel
theorem pd0_1 : parseMethodDescriptor "()J" = some ⟨[], some .long⟩ := by decide +kernel
theorem ef0 (m : MethodId) (p0 : Int32) (p1 : Int32) (p2 : Int32) (q3 : Int64) : entryFrame m #[(.int p0), (.int p1), (.int p2), (.long q3)] maxLocals = mkF m 0 #[.val (.int p0), .val (.int p1), .val (.int p2), .val (.long q3), .second, .unset, .unset, .unset, .unset, .unset, .unset, .unset] [] := by first | (simp [entryFrame, mkF, argsToLocals, Value.category, maxLocals]; done) | rfl
def Q0 (Z : State) (p0 : Int32) (p1 : Int32) (p2 : Int32) (q3 : Int64) (h0 : Heap) (n0 : Nat) (v : Option Value) (h : Heap) (L : List Loc) : Prop := v = some (.int 1) ∧ Fr n0 L
set_option maxRecDepth 65536 in
set_option maxHeartbeats 40000000 in
theorem rm0 (l : Launch) (Z : State) (a0 : Array Value) (hw : ∀ d ∈ tables_1, d.before a0 Z = true) (ws : List Jvm.Cond) (p0 : Int32) (p1 : Int32) (p2 : Int32) (q3 : Int64) (h0 : Heap) (n0 : Nat) (Z0 : n0 ≤ h0.size) :
    MetFree l x (head1 (Jvm.Cond.code x code maxLocals ret :: ws) room_1) (fun a U => a = #[(.int p0), (.int p1), (.int p2), (.long q3)] ∧ Z.Warmed39 U.vm ∧ U.heap = h0) (fun _ _ _ _ _ => True) (fun _ U o U' => ∃ v L, o = .returned v ∧ Q0 Z p0 p1 p2 q3 h0 n0 v U'.heap L ∧ FrameEnd U o U' L room_1.cells room_1.slots) := by
  refine MetFree.of_bodySF (plainFor_of_name pn0) hisR ?_
  intro p e s m args below meth c s₁ Bd hml0 hP hK
  obtain ⟨rfl, hZ, hh⟩ := hP
  have hx := Bd.exec
  have hby := Bd.bytes
  have hml : c.maxLocals = 12 := hml0
  have hown : s.vm.findClass "com/example/broker_load_test/brokerloadtest/model/ConnectionRunGetClientsPinLaw" = some m.cls := findClass_of_methodNamed Bd.named
  have hnm := (name_of_methodNamed Bd.named Bd.method).1
  have X0 : Stand p l e room_1 s m #[(.int p0), (.int p1), (.int p2), (.long q3)] below meth c s₁ [] 0 0 := Stand.of_body Bd
  have e0 : s₁.heap = h0 := by rw [← hh, Bd.state]; rfl
  have N0 := Fr.nil n0
  have K0 : Keep h0 h0 [] := Keep.refl h0 _
  refine own_in ?_
  refine own_go (B := s₁.setTop (mkF m 0 #[.val (.int p0), .val (.int p1), .val (.int p2), .val (.long q3), .second, .unset, .unset, .unset, .unset, .unset, .unset, .unset] [])) (fun t k => castTop (ef0 m p0 p1 p2 q3) k) ?_
  obtain ⟨T1, h1, X1, e1, E1, A1, D1, -, st1⟩ := newO X0 hx hZ hown (hw _ (List.mem_of_getElem? (i := 0) rfl)) (hw _ (List.mem_of_getElem? (i := 1) rfl)) (hw _ (List.mem_of_getElem? (i := 2) rfl)) e0 (g := (mkF m 0 #[.val (.int p0), .val (.int p1), .val (.int p2), .val (.long q3), .second, .unset, .unset, .unset, .unset, .unset, .unset, .unset] [])) rfl (hb hby at_0) (by decide) (by decide)
  obtain ⟨b1, g1⟩ : ∃ z, z = h0.size := ⟨_, rfl⟩
  rw [← g1] at A1 D1 st1
  have g_b1 : n0 ≤ b1 := by rw [g1]; exact Z0
  have sz_b1 : h0.size ≤ b1 := by rw [g1]; exact K0.1
  have K1 : Keep h0 h1 [] := K0.ext E1
  have F_number_b1 : Fld Z h1 b1 "com/example/broker_load_test/brokerloadtest/model/ConnectionRun" "number" "I" (.int (0 : Int32)) := D1 (Or.inr (hw _ (List.mem_of_getElem? (i := 10) rfl))) (ty := .int) (by decide)
  have F_sets_b1 : Fld Z h1 b1 "com/example/broker_load_test/brokerloadtest/model/ConnectionRun" "sets" "I" (.int (0 : Int32)) := D1 (Or.inr (hw _ (List.mem_of_getElem? (i := 12) rfl))) (ty := .int) (by decide)
  have F_endpoints_b1 : Fld Z h1 b1 "com/example/broker_load_test/brokerloadtest/model/ConnectionRun" "endpoints" "I" (.int (0 : Int32)) := D1 (Or.inr (hw _ (List.mem_of_getElem? (i := 14) rfl))) (ty := .int) (by decide)
  have F_deadlineSeconds_b1 : Fld Z h1 b1 "com/example/broker_load_test/brokerloadtest/model/ConnectionRun" "deadlineSeconds" "J" (.long (0 : Int64)) := D1 (Or.inr (hw _ (List.mem_of_getElem? (i := 16) rfl))) (ty := .long) (by decide)
  refine own_go st1 ?_
  show own_Fin p.tables e below (T1.setTop (mkF m 3 #[.val (.int p0), .val (.int p1), .val (.int p2), .val (.long q3), .second, .unset, .unset, .unset, .unset, .unset, .unset, .unset] [(.ref b1)])) _
  refine own_go (B := T1.setTop (mkF m 8 #[.val (.int p0), .val (.int p1), .val (.int p2), .val (.long q3), .second, .unset, .unset, .unset, .unset, .unset, .unset, .unset] [(.long q3), (.int p2), (.int p1), (.int p0), (.ref b1), (.ref b1)])) (fun t k => ?_) ?_
  · show Steps p.tables e below (T1.setTop (mkF m 3 #[.val (.int p0), .val (.int p1), .val (.int p2), .val (.long q3), .second, .unset, .unset, .unset, .unset, .unset, .unset, .unset] [(.ref b1)])) t
    refine XS.dup X1.here hx rfl (hb hby at_3) rfl rfl ?_
    refine XS.iloadN X1.here hx rfl (hb hby at_4) rfl ?_
    refine XS.iloadN X1.here hx rfl (hb hby at_5) rfl ?_
    refine XS.iloadN X1.here hx rfl (hb hby at_6) rfl ?_
    show Steps p.tables e below (T1.setTop (mkF m 7 #[.val (.int p0), .val (.int p1), .val (.int p2), .val (.long q3), .second, .unset, .unset, .unset, .unset, .unset, .unset, .unset] [(.int p2), (.int p1), (.int p0), (.ref b1), (.ref b1)])) t
    refine XS.lloadN X1.here hx rfl (hb hby at_7) rfl ?_
    exact k
  obtain ⟨_, _, ⟨T2, L2, k2, n2⟩, -, X2, ⟨Lc2, hQ2, l2, y2, z2⟩, st2⟩ := X1.specialBack hx (y := (⟨"com/example/broker_load_test/brokerloadtest/model/ConnectionRun", "<init>", "(IIIJ)V"⟩ : MethodName)) rfl hown (mvT hZ (hw _ (List.mem_of_getElem? (i := 3) rfl))) (mvT hZ (hw _ (List.mem_of_getElem? (i := 4) rfl))) (mvT hZ (hw _ (List.mem_of_getElem? (i := 5) rfl))) (by decide) (backOf (W := 1) (rm1 l Z a0 hw [] b1 p0 p1 p2 q3  h1 n0 (Nat.le_trans Z0 K1.1) A1 g_b1 F_number_b1 F_sets_b1 F_endpoints_b1 F_deadlineSeconds_b1) hZ (hw _ (List.mem_of_getElem? (i := 5) rfl)) (hw _ (List.mem_of_getElem? (i := 2) rfl)) (by decide) (by decide)) (g := (mkF m 8 #[.val (.int p0), .val (.int p1), .val (.int p2), .val (.long q3), .second, .unset, .unset, .unset, .unset, .unset, .unset, .unset] [(.long q3), (.int p2), (.int p1), (.int p0), (.ref b1), (.ref b1)])) rfl (by rw [hml]; rfl) (Steps.refl _) (a := b1) (argsL := [(.int p0), (.int p1), (.int p2), (.long q3)]) (rest := [(.ref b1)]) (lenOf pd0_0 rfl) rfl (by show 2 * 0 + _ ≤ _; exact Nat.le_of_eq rfl) (hb hby at_8) (fun _ _ => ⟨rfl, e1, (by decide : 1 + 0 ≤ _), (by decide : 4 + 0 ≤ _)⟩)
  dsimp only [Pt.U, Pt.locs, Pt.cells, Pt.slots] at X2 l2 y2 z2 st2 hQ2
  subst l2 y2 z2
  obtain ⟨rfl, N2q, Kq2, f2_0, f2_1, f2_2⟩ := hQ2
  have N2 := Fr.app N0 N2q
  have K2 : Keep h0 T2.heap [] := K1.trans Kq2 (allS (Or.inr sz_b1) all0)
  refine own_go (fun _ k => st2.trans k) ?_
  show own_Fin p.tables e below (T2.setTop (mkF m 11 #[.val (.int p0), .val (.int p1), .val (.int p2), .val (.long q3), .second, .unset, .unset, .unset, .unset, .unset, .unset, .unset] [(.ref b1)])) _
  refine own_go (B := T2.setTop (mkF m 46 #[.val (.int p0), .val (.int p1), .val (.int p2), .val (.long q3), .second, .val (.ref b1), .val (.long ((p2 >>> ((16 : Int32) &&& 31)).toInt64)), .second, .val (.long ((p2 &&& (65535 : Int32)).toInt64)), .second, .val (.long ((((p1.toInt64) * ((p2 >>> ((16 : Int32) &&& 31)).toInt64)) * (65536 : Int64)) + ((p1.toInt64) * ((p2 &&& (65535 : Int32)).toInt64)))), .second] [(.ref b1)])) (fun t k => ?_) ?_
  · show Steps p.tables e below (T2.setTop (mkF m 11 #[.val (.int p0), .val (.int p1), .val (.int p2), .val (.long q3), .second, .unset, .unset, .unset, .unset, .unset, .unset, .unset] [(.ref b1)])) t
    refine XS.astore X2.here hx rfl (hb hby at_11) rfl rfl (l' := #[.val (.int p0), .val (.int p1), .val (.int p2), .val (.long q3), .second, .val (.ref b1), .unset, .unset, .unset, .unset, .unset, .unset]) rfl ?_
    refine XS.iloadN X2.here hx rfl (hb hby at_13) rfl ?_
    refine XS.bipush X2.here hx rfl (hb hby at_14) ?_
    refine XS.ishr X2.here hx rfl (hb hby at_16) rfl ?_
    show Steps p.tables e below (T2.setTop (mkF m 17 #[.val (.int p0), .val (.int p1), .val (.int p2), .val (.long q3), .second, .val (.ref b1), .unset, .unset, .unset, .unset, .unset, .unset] [(.int (p2 >>> ((16 : Int32) &&& 31)))])) t
    refine XS.i2l X2.here hx rfl (hb hby at_17) rfl ?_
    refine XS.lstore X2.here hx rfl (hb hby at_18) rfl (l' := #[.val (.int p0), .val (.int p1), .val (.int p2), .val (.long q3), .second, .val (.ref b1), .val (.long ((p2 >>> ((16 : Int32) &&& 31)).toInt64)), .second, .unset, .unset, .unset, .unset]) rfl ?_
    refine XS.iloadN X2.here hx rfl (hb hby at_20) rfl ?_
    refine X2.ldcI hx hown (mvT hZ (hw _ (List.mem_of_getElem? (i := 17) rfl))) rfl (hb hby at_21) ?_
    show Steps p.tables e below (T2.setTop (mkF m 23 #[.val (.int p0), .val (.int p1), .val (.int p2), .val (.long q3), .second, .val (.ref b1), .val (.long ((p2 >>> ((16 : Int32) &&& 31)).toInt64)), .second, .unset, .unset, .unset, .unset] [(.int (65535 : Int32)), (.int p2)])) t
    refine XS.iand X2.here hx rfl (hb hby at_23) rfl ?_
    refine XS.i2l X2.here hx rfl (hb hby at_24) rfl ?_
    refine XS.lstore X2.here hx rfl (hb hby at_25) rfl (l' := #[.val (.int p0), .val (.int p1), .val (.int p2), .val (.long q3), .second, .val (.ref b1), .val (.long ((p2 >>> ((16 : Int32) &&& 31)).toInt64)), .second, .val (.long ((p2 &&& (65535 : Int32)).toInt64)), .second, .unset, .unset]) rfl ?_
    refine XS.iloadN X2.here hx rfl (hb hby at_27) rfl ?_
    show Steps p.tables e below (T2.setTop (mkF m 28 #[.val (.int p0), .val (.int p1), .val (.int p2), .val (.long q3), .second, .val (.ref b1), .val (.long ((p2 >>> ((16 : Int32) &&& 31)).toInt64)), .second, .val (.long ((p2 &&& (65535 : Int32)).toInt64)), .second, .unset, .unset] [(.int p1)])) t
    refine XS.i2l X2.here hx rfl (hb hby at_28) rfl ?_
    refine XS.lload X2.here hx rfl (hb hby at_29) rfl ?_
    refine XS.lmul X2.here hx rfl (hb hby at_31) rfl ?_
    refine X2.ldc2J hx hown (mvT hZ (hw _ (List.mem_of_getElem? (i := 18) rfl))) rfl (hb hby at_32) ?_
    show Steps p.tables e below (T2.setTop (mkF m 35 #[.val (.int p0), .val (.int p1), .val (.int p2), .val (.long q3), .second, .val (.ref b1), .val (.long ((p2 >>> ((16 : Int32) &&& 31)).toInt64)), .second, .val (.long ((p2 &&& (65535 : Int32)).toInt64)), .second, .unset, .unset] [(.long (65536 : Int64)), (.long ((p1.toInt64) * ((p2 >>> ((16 : Int32) &&& 31)).toInt64)))])) t
    refine XS.lmul X2.here hx rfl (hb hby at_35) rfl ?_
    refine XS.iloadN X2.here hx rfl (hb hby at_36) rfl ?_
    refine XS.i2l X2.here hx rfl (hb hby at_37) rfl ?_
    refine XS.lload X2.here hx rfl (hb hby at_38) rfl ?_
    show Steps p.tables e below (T2.setTop (mkF m 40 #[.val (.int p0), .val (.int p1), .val (.int p2), .val (.long q3), .second, .val (.ref b1), .val (.long ((p2 >>> ((16 : Int32) &&& 31)).toInt64)), .second, .val (.long ((p2 &&& (65535 : Int32)).toInt64)), .second, .unset, .unset] [(.long ((p2 &&& (65535 : Int32)).toInt64)), (.long (p1.toInt64)), (.long (((p1.toInt64) * ((p2 >>> ((16 : Int32) &&& 31)).toInt64)) * (65536 : Int64)))])) t
    refine XS.lmul X2.here hx rfl (hb hby at_40) rfl ?_
    refine XS.ladd X2.here hx rfl (hb hby at_41) rfl ?_
    refine XS.lstore X2.here hx rfl (hb hby at_42) rfl (l' := #[.val (.int p0), .val (.int p1), .val (.int p2), .val (.long q3), .second, .val (.ref b1), .val (.long ((p2 >>> ((16 : Int32) &&& 31)).toInt64)), .second, .val (.long ((p2 &&& (65535 : Int32)).toInt64)), .second, .val (.long ((((p1.toInt64) * ((p2 >>> ((16 : Int32) &&& 31)).toInt64)) * (65536 : Int64)) + ((p1.toInt64) * ((p2 &&& (65535 : Int32)).toInt64)))), .second]) rfl ?_
    refine XS.aload X2.here hx rfl (hb hby at_44) rfl rfl ?_
    exact k
  obtain ⟨cq3, kq3, q3a, q3b, q3c⟩ := isOf hZ rfl f2_0
  obtain ⟨_, _, ⟨T3, L3, k3, n3⟩, -, X3, ⟨Lc3, hQ3, l3, y3, z3⟩, st3⟩ := X2.virtualBack hx (y := (⟨"com/example/broker_load_test/brokerloadtest/model/ConnectionRun", "getClients", "()J"⟩ : MethodName)) (z := (⟨"com/example/broker_load_test/brokerloadtest/model/ConnectionRun", "getClients", "()J"⟩ : MethodName)) hown (mvT hZ (hw _ (List.mem_of_getElem? (i := 19) rfl))) (mvT hZ (hw _ (List.mem_of_getElem? (i := 20) rfl))) (notFace_of_selects (args := #[]) (mvT hZ (hw _ (List.mem_of_getElem? (i := 22) rfl)))) (mvT hZ (hw _ (List.mem_of_getElem? (i := 22) rfl))) (mvT hZ (hw _ (List.mem_of_getElem? (i := 21) rfl))) (by decide) (backOf (W := 0) (rm2 l Z a0 hw [] b1 p1 p2 T2.heap n0 (Nat.le_trans Z0 K2.1) f2_1 f2_2) hZ (hw _ (List.mem_of_getElem? (i := 23) rfl)) (hw _ (List.mem_of_getElem? (i := 2) rfl)) (by decide) (by decide)) q3a q3c (g := (mkF m 46 #[.val (.int p0), .val (.int p1), .val (.int p2), .val (.long q3), .second, .val (.ref b1), .val (.long ((p2 >>> ((16 : Int32) &&& 31)).toInt64)), .second, .val (.long ((p2 &&& (65535 : Int32)).toInt64)), .second, .val (.long ((((p1.toInt64) * ((p2 >>> ((16 : Int32) &&& 31)).toInt64)) * (65536 : Int64)) + ((p1.toInt64) * ((p2 &&& (65535 : Int32)).toInt64)))), .second] [(.ref b1)])) rfl (by rw [hml]; rfl) (Steps.refl _) (argsL := []) (rest := []) (lenOf pd0_1 rfl) rfl (by show 2 * 0 + _ ≤ _; exact Nat.le_of_eq rfl) (hb hby at_46) (fun _ _ => ⟨rfl, rfl, (by decide : 1 + 0 ≤ _), (by decide : 4 + 0 ≤ _)⟩)
  dsimp only [Pt.U, Pt.locs, Pt.cells, Pt.slots] at X3 l3 y3 z3 st3 hQ3
  subst l3 y3 z3
  obtain ⟨rfl, N3q, e3⟩ := hQ3
  have N3 := Fr.app N2 N3q
  refine own_go (fun _ k => st3.trans k) ?_
  show own_Fin p.tables e below (T3.setTop (mkF m 49 #[.val (.int p0), .val (.int p1), .val (.int p2), .val (.long q3), .second, .val (.ref b1), .val (.long ((p2 >>> ((16 : Int32) &&& 31)).toInt64)), .second, .val (.long ((p2 &&& (65535 : Int32)).toInt64)), .second, .val (.long ((((p1.toInt64) * ((p2 >>> ((16 : Int32) &&& 31)).toInt64)) * (65536 : Int64)) + ((p1.toInt64) * ((p2 &&& (65535 : Int32)).toInt64)))), .second] [(.long (p1.toInt64 * p2.toInt64))])) _
  refine own_go (B := T3.setTop (mkF m 52 #[.val (.int p0), .val (.int p1), .val (.int p2), .val (.long q3), .second, .val (.ref b1), .val (.long ((p2 >>> ((16 : Int32) &&& 31)).toInt64)), .second, .val (.long ((p2 &&& (65535 : Int32)).toInt64)), .second, .val (.long ((((p1.toInt64) * ((p2 >>> ((16 : Int32) &&& 31)).toInt64)) * (65536 : Int64)) + ((p1.toInt64) * ((p2 &&& (65535 : Int32)).toInt64)))), .second] [(.int (lcmpW (p1.toInt64 * p2.toInt64) ((((p1.toInt64) * ((p2 >>> ((16 : Int32) &&& 31)).toInt64)) * (65536 : Int64)) + ((p1.toInt64) * ((p2 &&& (65535 : Int32)).toInt64)))))])) (fun t k => ?_) ?_
  · show Steps p.tables e below (T3.setTop (mkF m 49 #[.val (.int p0), .val (.int p1), .val (.int p2), .val (.long q3), .second, .val (.ref b1), .val (.long ((p2 >>> ((16 : Int32) &&& 31)).toInt64)), .second, .val (.long ((p2 &&& (65535 : Int32)).toInt64)), .second, .val (.long ((((p1.toInt64) * ((p2 >>> ((16 : Int32) &&& 31)).toInt64)) * (65536 : Int64)) + ((p1.toInt64) * ((p2 &&& (65535 : Int32)).toInt64)))), .second] [(.long (p1.toInt64 * p2.toInt64))])) t
    refine XS.lload X3.here hx rfl (hb hby at_49) rfl ?_
    refine XS.lcmp X3.here hx rfl (hb hby at_51) rfl ?_
    exact k
  have hc4 : (p1.toInt64 * p2.toInt64) = ((((p1.toInt64) * ((p2 >>> ((16 : Int32) &&& 31)).toInt64)) * (65536 : Int64)) + ((p1.toInt64) * ((p2 &&& (65535 : Int32)).toInt64))) := own_law p1 p2
  refine own_go (B := T3.setTop (mkF m 60 #[.val (.int p0), .val (.int p1), .val (.int p2), .val (.long q3), .second, .val (.ref b1), .val (.long ((p2 >>> ((16 : Int32) &&& 31)).toInt64)), .second, .val (.long ((p2 &&& (65535 : Int32)).toInt64)), .second, .val (.long ((((p1.toInt64) * ((p2 >>> ((16 : Int32) &&& 31)).toInt64)) * (65536 : Int64)) + ((p1.toInt64) * ((p2 &&& (65535 : Int32)).toInt64)))), .second] [(.int (1 : Int32))])) (fun t k => ?_) ?_
  · show Steps p.tables e below (T3.setTop (mkF m 52 #[.val (.int p0), .val (.int p1), .val (.int p2), .val (.long q3), .second, .val (.ref b1), .val (.long ((p2 >>> ((16 : Int32) &&& 31)).toInt64)), .second, .val (.long ((p2 &&& (65535 : Int32)).toInt64)), .second, .val (.long ((((p1.toInt64) * ((p2 >>> ((16 : Int32) &&& 31)).toInt64)) * (65536 : Int64)) + ((p1.toInt64) * ((p2 &&& (65535 : Int32)).toInt64)))), .second] [(.int (lcmpW (p1.toInt64 * p2.toInt64) ((((p1.toInt64) * ((p2 >>> ((16 : Int32) &&& 31)).toInt64)) * (65536 : Int64)) + ((p1.toInt64) * ((p2 &&& (65535 : Int32)).toInt64)))))])) t
    refine XS.ifNo X3.here hx rfl (hb hby at_52) rfl ((if0 _ _).trans (teq ((lw_eq _ _).mpr hc4)).2) ?_
    refine XS.iconst X3.here hx rfl (hb hby at_55) ?_
    refine XS.goto X3.here hx rfl (pc0 := 56) (pc' := 60) rfl (hb hby at_56) (by decide) (by decide) ?_
    exact k
  obtain ⟨fs, hr, hrun, hended, hW, hsame⟩ := X3.leave (v := some (.int (1 : Int32))) (fun h => by rw [Bd.returns] at h; cases h)
  refine ⟨_, _, ?_, hrun, hended, _, _, rfl, ?_, ⟨_, rfl⟩, hW, hsame.mono (by decide) (by decide)⟩
  · exact retOut X3 hx (t := .boolean) Bd.returns rfl (Or.inl ⟨rfl, by simp, _, rfl⟩) (hb hby at_60) hr
  · show Q0 Z p0 p1 p2 q3 h0 n0 _ T3.heap _
    rw [e3]
    exact ⟨rfl, N3⟩
set_option maxRecDepth 65536 in
set_option maxHeartbeats 40000000 in
theorem comes_1 {Post : Tables → Env → Array Value → State → Outcome → State → Prop} (hpost : ∀ tb e args s v u, (limb_1_1.after args s (.returned v) u = true ∧ limb_1_2.after args s (.returned v) u = true ∧ True) → FrameEnd s (.returned v) u (Jvm.fieldLocs frame_1_writes args s ++ Jvm.arrayLocs frame_1_arrays args s ++ Jvm.staticLocs frame_1_statics s) 16 128 → Post tb e args s (.returned v) u) :
    ArmFor flags0 classFile x code maxLocals ret World_1 tables_1 room_1 Calls_1 rest_1 Pre_1 Post := by
  intro l hfl _ _ p e ha hc hk s m args below hf hA hF happ hP
  obtain ⟨hcalls, hrest, hpre⟩ := hP
  obtain ⟨-, -, -, hnamed, -, -, -, hat⟩ := (Spec.applies_iff hf).mp happ
  obtain ⟨hg, hn⟩ := and_e (Cond.before_iff.mp (show (Jvm.Cond.and given_1 narrow_1).before args s = true from hpre))
  obtain ⟨hcnt, hv0⟩ := and_e hg
  obtain ⟨hk0, hv1⟩ := and_e hv0
  obtain ⟨hk1, hv2⟩ := and_e hv1
  obtain ⟨hk2, hv3⟩ := and_e hv2
  have hk3 := hv3
  obtain ⟨w0, w1, w2, w3, rfl⟩ : ∃ w0 w1 w2 w3 : Value, args = #[w0, w1, w2, w3] := by
    have hs : args.size = 4 := by simpa [Cond.value, given_1] using hcnt
    obtain ⟨L⟩ := args
    match L, hs with
    | [w0, w1, w2, w3], _ => exact ⟨w0, w1, w2, w3, rfl⟩
  have hw := fun d (hd : d ∈ tables_1) => atoms_spec (ws := Jvm.Cond.code x code maxLocals ret :: tables_1) hat d (List.mem_cons_of_mem _ hd)
  have hfit : Fit s := fun {y c} hc i hi => by
    obtain ⟨ha, rfl⟩ := Array.getElem?_eq_some_iff.mp hc
    have q := List.all_eq_true.mp ((Array.all_eq_true_iff_forall_mem.mp hF) _ (Array.getElem_mem ha)) i (List.mem_range.mpr hi)
    simpa [Array.getElem?_eq_getElem hi] using q
  obtain ⟨i0, ei0⟩ := is_v hk0
  obtain rfl : w0 = (.int i0) := Option.some.inj ei0
  obtain ⟨i1, ei1⟩ := is_v hk1
  obtain rfl : w1 = (.int i1) := Option.some.inj ei1
  obtain ⟨i2, ei2⟩ := is_v hk2
  obtain rfl : w2 = (.int i2) := Option.some.inj ei2
  obtain ⟨i3, ei3⟩ := isL_v hk3
  obtain rfl : w3 = (.long i3) := Option.some.inj ei3
  obtain ⟨n, o, h1, h2, h3, _, L, rfl, ⟨rfl, N⟩, hq⟩ := rm0 l s _ hw tables_1 i0 i1 i2 i3  s.heap s.heap.size (Nat.le_refl _)  p e ha hc hk s m _ below hf ((Spec.applies_iff_loose hf).mp happ).1 ⟨rfl, State.Warmed39.refl s, rfl⟩ trivial
  refine ⟨n, _, h1, h2, h3, hpost _ _ _ _ _ _ ⟨Cond.after_iff.mpr rfl, Cond.after_iff.mpr (eq_i res_at (Term.int_eval (1)) rfl), trivial⟩ ⟨hq.1, hq.2.1, (hq.2.2.sift fun y hy => Or.inr (N y hy)).mono (by decide) (by decide)⟩⟩
theorem main_1_1 : Claimed_1_1 := comes_1 fun _ _ _ _ _ _ h hF => ⟨h.1, hF⟩
theorem main_1_2 : Claimed_1_2 := comes_1 fun _ _ _ _ _ _ h hF => ⟨h.2.1, hF⟩
end Jvm.Pilot.@@N@@
namespace Jvm.Pilot.@@N@@
open Jvm Jvm.ClassFile Sem Op Lib Jvm.Free Jvm.Stand Jvm.Pilot.@@N@@.Jvm.D
/-! MADE BY PROGRAM (witnessworld.py) out of the Statement's table words and the real class files: 9 classes; the members and pool entries that the words name. The judged class is class 1, her method 1. -/
namespace start1
open Jvm.ClassFile
def u (s : String) : CpInfo := .utf8 (stringToUtf16 s)
/-- a pool by its gaps: so many unusable entries, then the entry; so many at the end -/
def gap : Nat → List CpInfo → List CpInfo
  | 0, r => r
  | n + 1, r => .unusable :: gap n r
def poolList (es : List (Nat × CpInfo)) (last : Nat) : List CpInfo := es.foldr (fun e r => gap e.1 (e.2 :: r)) (gap last [])
def pool (es : List (Nat × CpInfo)) (last : Nat) : Array CpInfo := ⟨poolList es last⟩
def fileOf (pool : Array CpInfo) (this : Nat) (attrs : Array Attribute := #[]) (ms : Array MethodInfo := #[]) (fl : Nat := 33) (sup : Nat := 0) (ifs : Array Nat := #[]) (fds : Array FieldInfo := #[]) : ClassFile where
  minorVersion := 0
  majorVersion := 65
  constantPool := pool
  accessFlags := fl
  thisClass := this
  superClass := sup
  interfaces := ifs
  fields := fds
  methods := ms
  attributes := attrs
def plain (name : String) (sup : Option ClassId) : Class where
  name := name
  kind := .ordinary
  loader := none
  accessFlags := 33
  super := sup
  interfaces := #[]
  cf := none
  fields := #[]
  methods := #[]
  instanceTypes := #[]
  staticTypes := #[]
  resolved := #[]
  callSites := []
  init := .initialized
  statics := none
  mirror := none

def pool0 : Array CpInfo := pool [(5, u "<init>"), (0, u "()V"), (1, .class_ 10), (1, u "java/lang/Object")] 113

def k0c0 : Code := { maxStack := 0, maxLocals := 1, code := object_method_1_code, exceptionTable := #[], attributes := #[] }
def k0m0 : Method := { name := "<init>", desc := "()V", sig := { parameters := [], returnType := none }, accessFlags := 1, code := some k0c0 }
/-- java/lang/Object -/
def k0 : Class := { plain "java/lang/Object" none with
  accessFlags := 33
  interfaces := #[]
  cf := some (fileOf pool0 8 #[] #[{ accessFlags := 1, nameIndex := 5, descriptorIndex := 6, attributes := #[] }] 33 0 #[] #[])
  fields := #[]
  methods := #[k0m0]
  instanceTypes := #[]
  staticTypes := #[]
  resolved := Array.replicate 124 none
  statics := none }

def pool1 : Array CpInfo := pool [(2, .class_ 4), (1, u "java/lang/Object"), (0, u "<init>"), (0, u "()V"), (0, .class_ 8), (0, u "com/example/broker_load_test/brokerloadtest/model/ConnectionRun"), (0, .methodref 7 10), (0, .nameAndType 5 11), (0, u "(IIIJ)V"), (0, .integer 65535), (0, .long 65536), (1, .methodref 7 16), (0, .nameAndType 17 18), (0, u "getClients"), (0, u "()J"), (0, .class_ 20), (0, u "com/example/broker_load_test/brokerloadtest/model/ConnectionRunGetClientsPinLaw"), (2, u "law"), (0, u "(IIIJ)Z")] 3

def k1m0 : Method := { name := "<init>", desc := "()V", sig := { parameters := [], returnType := none }, accessFlags := 1, code := none }
def k1c1 : Code := { maxStack := 7, maxLocals := 12, code := code, exceptionTable := #[], attributes := #[] }
def k1m1 : Method := { name := "law", desc := "(IIIJ)Z", sig := { parameters := [.int, .int, .int, .long], returnType := some .boolean }, accessFlags := 9, code := some k1c1 }
/-- com/example/broker_load_test/brokerloadtest/model/ConnectionRunGetClientsPinLaw -/
def k1 : Class := { plain "com/example/broker_load_test/brokerloadtest/model/ConnectionRunGetClientsPinLaw" (some 0) with
  accessFlags := 49
  interfaces := #[]
  cf := some (fileOf pool1 19 #[] #[{ accessFlags := 1, nameIndex := 5, descriptorIndex := 6, attributes := #[] }, { accessFlags := 9, nameIndex := 23, descriptorIndex := 24, attributes := #[] }] 49 2 #[] #[])
  fields := #[]
  methods := #[k1m0, k1m1]
  instanceTypes := #[]
  staticTypes := #[]
  resolved := Array.replicate 28 none
  statics := none }

def pool2 : Array CpInfo := pool [(1, .methodref 2 3), (0, .class_ 4), (0, .nameAndType 5 6), (0, u "java/lang/Object"), (0, u "<init>"), (0, u "()V"), (0, .fieldref 8 9), (0, .class_ 10), (0, .nameAndType 11 12), (0, u "com/example/broker_load_test/brokerloadtest/model/ConnectionRun"), (0, u "number"), (0, u "I"), (0, .fieldref 8 14), (0, .nameAndType 15 12), (0, u "sets"), (0, .fieldref 8 17), (0, .nameAndType 18 12), (0, u "endpoints"), (0, .fieldref 8 20), (0, .nameAndType 21 22), (0, u "deadlineSeconds"), (0, u "J"), (0, u "(IIIJ)V"), (6, u "getClients"), (0, u "()J")] 3

def k2c0 : Code := { maxStack := 3, maxLocals := 6, code := prog_13_method_1_code, exceptionTable := #[], attributes := #[] }
def k2m0 : Method := { name := "<init>", desc := "(IIIJ)V", sig := { parameters := [.int, .int, .int, .long], returnType := none }, accessFlags := 1, code := some k2c0 }
def k2c1 : Code := { maxStack := 4, maxLocals := 1, code := prog_13_method_5_code, exceptionTable := #[], attributes := #[] }
def k2m1 : Method := { name := "getClients", desc := "()J", sig := { parameters := [], returnType := some .long }, accessFlags := 1, code := some k2c1 }
/-- com/example/broker_load_test/brokerloadtest/model/ConnectionRun -/
def k2 : Class := { plain "com/example/broker_load_test/brokerloadtest/model/ConnectionRun" (some 0) with
  accessFlags := 49
  interfaces := #[]
  cf := some (fileOf pool2 8 #[] #[{ accessFlags := 1, nameIndex := 5, descriptorIndex := 23, attributes := #[] }, { accessFlags := 1, nameIndex := 30, descriptorIndex := 31, attributes := #[] }] 49 2 #[] #[{ accessFlags := 18, nameIndex := 11, descriptorIndex := 12, attributes := #[] }, { accessFlags := 18, nameIndex := 15, descriptorIndex := 12, attributes := #[] }, { accessFlags := 18, nameIndex := 18, descriptorIndex := 12, attributes := #[] }, { accessFlags := 18, nameIndex := 21, descriptorIndex := 22, attributes := #[] }])
  fields := #[{ name := "number", type := .int, accessFlags := 18, slot := 0, constantValue := 0 }, { name := "sets", type := .int, accessFlags := 18, slot := 1, constantValue := 0 }, { name := "endpoints", type := .int, accessFlags := 18, slot := 2, constantValue := 0 }, { name := "deadlineSeconds", type := .long, accessFlags := 18, slot := 3, constantValue := 0 }]
  methods := #[k2m0, k2m1]
  instanceTypes := #[.int, .int, .int, .long]
  staticTypes := #[]
  resolved := Array.replicate 35 none
  statics := none }

def pool3 : Array CpInfo := pool [(1, u "java/lang/Cloneable"), (0, .class_ 1), (0, u "java/lang/Object"), (0, .class_ 3)] 3

/-- java/lang/Cloneable -/
def k3 : Class := { plain "java/lang/Cloneable" (some 0) with
  accessFlags := 1537
  interfaces := #[]
  cf := some (fileOf pool3 2 #[] #[] 1537 4 #[] #[])
  fields := #[]
  methods := #[]
  instanceTypes := #[]
  staticTypes := #[]
  resolved := Array.replicate 8 none
  statics := none }

def pool4 : Array CpInfo := pool [(1, u "java/io/Serializable"), (0, .class_ 1), (0, u "java/lang/Object"), (0, .class_ 3)] 3

/-- java/io/Serializable -/
def k4 : Class := { plain "java/io/Serializable" (some 0) with
  accessFlags := 1537
  interfaces := #[]
  cf := some (fileOf pool4 2 #[] #[] 1537 4 #[] #[])
  fields := #[]
  methods := #[]
  instanceTypes := #[]
  staticTypes := #[]
  resolved := Array.replicate 8 none
  statics := none }

/-- the primitive byte -/
def k5 : Class := { plain "byte" none with kind := .primitive 'B', accessFlags := 0x411 }
/-- [B -/
def k6 : Class := { plain "[B" (some 0) with kind := .array 5 .byte, interfaces := #[3, 4], accessFlags := 1041 }

/-- the primitive int -/
def k7 : Class := { plain "int" none with kind := .primitive 'I', accessFlags := 0x411 }
/-- [I -/
def k8 : Class := { plain "[I" (some 0) with kind := .array 7 .int, interfaces := #[3, 4], accessFlags := 1041 }

def heap : Heap := #[]
def classes : Array Class := #[k0, k1, k2, k3, k4, k5, k6, k7, k8]
def interned : List (Array UInt16 × Addr) := []
def slotsUsed : Nat := 0
def theMethod : MethodId := ⟨1, 1⟩
def args0 : Array Value := #[.int 1, .int 2, .int 3, .long 4]
def aboutOver (below : List Frame) : State where
  vm := { classes := classes, interned := interned.toArray }
  heap := heap
  slotsUsed := slotsUsed
  threads := #[{ frames := .invoking theMethod args0 :: below }]
def below0 : List Frame := [.native { method := ⟨0, 0⟩, args := #[] }]
def about1 : State := aboutOver below0
def p0 : Program := .bare "" "" ""
def e0 : Env := launch0.env 0 0 0
theorem w_frames : about1.frames = Frame.invoking theMethod args0 :: below0 := rfl
set_option maxRecDepth 65536 in
theorem w_args : argsFit about1.vm theMethod args0 = true := by decide +kernel
set_option maxRecDepth 65536 in
theorem w_heap : heapFits about1 = true := by decide +kernel
set_option maxRecDepth 65536 in
theorem w_runnable : about1.curStatus? = some .runnable := by decide +kernel
set_option maxRecDepth 65536 in
theorem w_alone : about1.alone = true := by decide +kernel
set_option maxRecDepth 65536 in
theorem w_named : about1.methodNamed? x = some theMethod := by decide +kernel
set_option maxRecDepth 65536 in
theorem w_hears : about1.hears theMethod below0 = true := by decide +kernel
set_option maxRecDepth 65536 in
theorem w_ripe : about1.ripe theMethod args0 below0 = true := by decide +kernel
theorem w_running : about1.status = .running := rfl
set_option maxRecDepth 65536 in
theorem w_room : about1.hasRoom e0.platform room_1 = true :=
  launch0.hasRoom_least _ room_1 (by decide +kernel) (by decide +kernel) (by decide +kernel) (by decide +kernel) (by decide +kernel) (by decide +kernel)
theorem allAtoms_all (ts : List Jvm.Cond) (a : Array Jvm.Value) (st : Jvm.State) : (allAtoms ts).before a st = ts.all (fun c => c.before a st) := by
  induction ts with
  | nil => rfl
  | cons c t ih =>
    show (Jvm.Cond.and c (allAtoms t)).before a st = _
    rw [Jvm.Cond.before_and, ih, List.all_cons]
def words1 : List Jvm.Cond := Jvm.Cond.code x code maxLocals ret :: tables_1
/-- a 'code' word, met by the world's own term for the bytes: nothing is compared byte by byte -/
theorem code_word {y : MethodName} {bytes : ByteArray} {mx : Nat} {rt : Option FieldType} {a : Array Value} {s : State} {m : MethodId} {meth : Method} {c : Code} (h1 : s.methodNamed? y = some m) (h2 : s.vm.method? m = some meth) (h3 : meth.code = some c) (h4 : c.code = bytes)
    (h5 : (c.maxLocals == mx && c.exceptionTable.isEmpty && decide (c.maxStack ≤ mostOperands) && decide (meth.sig.returnType = rt) && !meth.locks && decide (parseMethodDescriptor y.desc = some meth.sig)) = true) : (Jvm.Cond.code y bytes mx rt).before a s = true := by
  simp only [Bool.and_eq_true, beq_iff_eq, Bool.not_eq_true', decide_eq_true_eq] at h5
  obtain ⟨⟨⟨⟨⟨g1, g2⟩, g3⟩, g4⟩, g5⟩, g6⟩ := h5
  simp [Cond.before, Cond.holds, Cond.value, h1, h2, h3, h4, g1, g2, g3, g4, g5, g6]
def isCode : Jvm.Cond → Bool
  | .code _ _ _ _ => true
  | _ => false
theorem all_split {L : List Jvm.Cond} {P : Jvm.Cond → Bool} (h1 : L.all (fun c => isCode c || P c) = true) (h2 : ∀ c ∈ L.filter isCode, P c = true) : L.all P = true := by
  refine List.all_eq_true.mpr fun c hc => ?_
  have h := List.all_eq_true.mp h1 c hc
  rcases Bool.eq_false_or_eq_true (isCode c) with hi | hi
  · exact h2 c (List.mem_filter.mpr ⟨hc, hi⟩)
  · simpa [hi] using h
set_option maxRecDepth 65536 in
theorem w_c0 : (Jvm.Cond.code x code maxLocals ret).before args0 about1 = true := code_word (m := ⟨1, 1⟩) (meth := k1m1) (c := k1c1) (by decide +kernel) rfl rfl rfl (by decide +kernel)
set_option maxRecDepth 65536 in
theorem w_c1 : (Jvm.Cond.code ({ cls := "com/example/broker_load_test/brokerloadtest/model/ConnectionRun", name := "<init>", desc := "(IIIJ)V" } : Jvm.MethodName) prog_13_method_1_code (6 : Nat) (Option.none : Option Jvm.ClassFile.FieldType)).before args0 about1 = true := code_word (m := ⟨2, 0⟩) (meth := k2m0) (c := k2c0) (by decide +kernel) rfl rfl rfl (by decide +kernel)
set_option maxRecDepth 65536 in
theorem w_c2 : (Jvm.Cond.code ({ cls := "java/lang/Object", name := "<init>", desc := "()V" } : Jvm.MethodName) object_method_1_code (1 : Nat) (Option.none : Option Jvm.ClassFile.FieldType)).before args0 about1 = true := code_word (m := ⟨0, 0⟩) (meth := k0m0) (c := k0c0) (by decide +kernel) rfl rfl rfl (by decide +kernel)
set_option maxRecDepth 65536 in
theorem w_c3 : (Jvm.Cond.code ({ cls := "com/example/broker_load_test/brokerloadtest/model/ConnectionRun", name := "getClients", desc := "()J" } : Jvm.MethodName) prog_13_method_5_code (1 : Nat) (Option.some Jvm.ClassFile.FieldType.long)).before args0 about1 = true := code_word (m := ⟨2, 1⟩) (meth := k2m1) (c := k2c1) (by decide +kernel) rfl rfl rfl (by decide +kernel)
def codes1 : List Jvm.Cond := [Jvm.Cond.code x code maxLocals ret, Jvm.Cond.code ({ cls := "com/example/broker_load_test/brokerloadtest/model/ConnectionRun", name := "<init>", desc := "(IIIJ)V" } : Jvm.MethodName) prog_13_method_1_code (6 : Nat) (Option.none : Option Jvm.ClassFile.FieldType), Jvm.Cond.code ({ cls := "java/lang/Object", name := "<init>", desc := "()V" } : Jvm.MethodName) object_method_1_code (1 : Nat) (Option.none : Option Jvm.ClassFile.FieldType), Jvm.Cond.code ({ cls := "com/example/broker_load_test/brokerloadtest/model/ConnectionRun", name := "getClients", desc := "()J" } : Jvm.MethodName) prog_13_method_5_code (1 : Nat) (Option.some Jvm.ClassFile.FieldType.long)]
set_option maxRecDepth 65536 in
theorem codes_eq : words1.filter isCode = codes1 := rfl
theorem w_codes : ∀ c ∈ words1.filter isCode, c.before args0 about1 = true := by
  rw [codes_eq]
  intro c hc
  simp only [codes1, List.mem_cons, List.not_mem_nil, or_false] at hc
  rcases hc with rfl | rfl | rfl | rfl
  · exact w_c0
  · exact w_c1
  · exact w_c2
  · exact w_c3
set_option maxRecDepth 65536 in
theorem w_t1 : (words1.take 24).all (fun c => isCode c || c.before args0 about1) = true := by decide +kernel
set_option maxRecDepth 65536 in
theorem w_t2 : (words1.drop 24).all (fun c => isCode c || c.before args0 about1) = true := by decide +kernel
theorem w_tables : (allAtoms (Jvm.Cond.code x code maxLocals ret :: tables_1)).before args0 about1 = true := by
  rw [allAtoms_all]
  show words1.all (fun c => c.before args0 about1) = true
  refine all_split ?_ w_codes
  rw [← List.take_append_drop 24 words1, List.all_append, w_t1, w_t2]
  rfl
set_option maxRecDepth 65536 in
theorem w_case : (Jvm.Cond.and given_1 narrow_1).before args0 about1 = true := by decide +kernel
theorem w_applies : (headSpec (Jvm.Cond.code x code maxLocals ret :: tables_1) room_1).applies x e0.platform about1 = true :=
  (Spec.applies_iff w_frames).mpr ⟨w_running, w_runnable, w_alone, w_named, w_hears, w_ripe, w_room, w_tables⟩
theorem atStart : AtStart classFile x code maxLocals ret World_1 tables_1 room_1 Calls_1 rest_1 Pre_1 launch0 p0 e0 about1 theMethod args0 below0 :=
  ⟨lists_1, trivial, launch0.admits_env _ _ _, launch0.least_env, fairChoices_fair.cas, fairChoices_fair.clock, w_frames, w_args, w_heap, w_applies, trivial, trivial, w_case⟩
end start1
theorem witness_1 : WitnessClaimed_1 := ⟨start1.p0, start1.e0, start1.about1, start1.theMethod, start1.args0, start1.below0, start1.atStart⟩
end Jvm.Pilot.@@N@@
