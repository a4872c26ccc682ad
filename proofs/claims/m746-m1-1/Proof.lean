import JvmDerived
import JvmDerived.Pilot.@@N@@Statement
import JvmDerived.Pilot.@@N@@Code
set_option linter.unusedVariables false
set_option linter.unusedSimpArgs false
namespace Jvm.Pilot.@@N@@
open Jvm Jvm.ClassFile Sem Op Lib Jvm.Free Jvm.Stand Jvm.LawKit Jvm.RoadKit Bundle Jvm.Pilot.@@N@@.Jvm.D
/-- from the state A the run comes to an end of which R holds -/
def own_Fin (tb : Tables) (e : Env) (below : List Frame) (A : State) (R : State → Outcome → Prop) : Prop := ∃ s₂ o, Steps tb e below A s₂ ∧ R s₂ o
theorem own_in {tb : Tables} {e : Env} {below : List Frame} {A : State} {R : State → Outcome → Prop} (h : own_Fin tb e below A R) : ∃ s₂ o, Steps tb e below A s₂ ∧ R s₂ o := h
theorem own_go {tb : Tables} {e : Env} {below : List Frame} {A B : State} {R : State → Outcome → Prop} (st : ∀ t, Steps tb e below B t → Steps tb e below A t) (h : own_Fin tb e below B R) : own_Fin tb e below A R := by
  obtain ⟨s₂, o, h1, h2⟩ := h
  exact ⟨s₂, o, st _ h1, h2⟩
theorem own_beqT {P : Prop} [Decidable P] (h : ¬ P) : ifCond.holds .eq (if P then (1 : Int32) else 0) = true := by rw [if_neg h]; rfl
theorem own_beqF {P : Prop} [Decidable P] (h : P) : ifCond.holds .eq (if P then (1 : Int32) else 0) = false := by rw [if_pos h]; rfl
theorem own_bneT {P : Prop} [Decidable P] (h : P) : ifCond.holds .ne (if P then (1 : Int32) else 0) = true := by rw [if_pos h]; rfl
theorem own_bneF {P : Prop} [Decidable P] (h : ¬ P) : ifCond.holds .ne (if P then (1 : Int32) else 0) = false := by rw [if_neg h]; rfl
theorem own_bEq {P R : Prop} [Decidable P] [Decidable R] (h : P ↔ R) : (if P then (1 : Int32) else 0) = (if R then (1 : Int32) else 0) := by
  by_cases p : P
  · rw [if_pos p, if_pos (h.mp p)]
  · rw [if_neg p, if_neg fun r => p (h.mpr r)]
theorem own_bNe {P R : Prop} [Decidable P] [Decidable R] (h : ¬ (P ↔ R)) : ¬ (if P then (1 : Int32) else 0) = (if R then (1 : Int32) else 0) := by
  intro q
  apply h
  by_cases p : P <;> by_cases r : R
  · exact ⟨fun _ => r, fun _ => p⟩
  · rw [if_pos p, if_neg r] at q; exact absurd q (by decide)
  · rw [if_neg p, if_pos r] at q; exact absurd q (by decide)
  · exact ⟨fun x => absurd x p, fun x => absurd x r⟩
theorem own_fitB {P : Prop} [Decidable P] : fits .boolean (.int (if P then (1 : Int32) else 0)) = true := by by_cases p : P <;> simp only [p, if_true, if_false] <;> rfl
theorem own_narB {P : Prop} [Decidable P] : narrow .boolean (.int (if P then (1 : Int32) else 0)) = .int (if P then (1 : Int32) else 0) := by by_cases p : P <;> simp only [p, if_true, if_false] <;> rfl
def own_sh (z : Int64) (k : Int32) : Int64 := ((z.toUInt64 >>> (k &&& 0x3f).toInt64.toUInt64).toInt64)
def own_x (z : Int64) (k : Int32) : Int64 := z ^^^ own_sh z k
def own_y (z : Int64) (k j : Int32) : Int64 := (z ^^^ own_sh z k) ^^^ own_sh z j
def own_st (c x : Int64) : Int64 := x * ((2 : Int64) - c * x)
def own_inv (c : Int64) : Int64 := own_st c (own_st c (own_st c (own_st c (own_st c c))))
def own_mix (z : Int64) : Int64 := own_x (own_x (own_x z 30 * (-4658895280553007687 : Int64)) 27 * (-7723592293110705685 : Int64)) 31
def own_unmix (z : Int64) : Int64 := own_y (own_y (own_y z 31 62 * own_inv (-7723592293110705685 : Int64)) 27 54 * own_inv (-4658895280553007687 : Int64)) 30 60
theorem own_shB (z : Int64) (k : Int32) (n : Nat) (hk : (k &&& 0x3f).toInt64.toUInt64.toBitVec % 64 = BitVec.ofNat 64 n) (hn : n < 64) : (own_sh z k).toBitVec = z.toBitVec >>> n := by
  show (z.toUInt64 >>> (k &&& 0x3f).toInt64.toUInt64).toBitVec = _
  rw [UInt64.toBitVec_shiftRight, hk, BitVec.ushiftRight_eq', BitVec.toNat_ofNat, Nat.mod_eq_of_lt (by omega)]
  rfl
theorem own_bits (x : BitVec 64) (n : Nat) (h : 64 ≤ 3 * n) : ((x ^^^ x >>> n) ^^^ (x ^^^ x >>> n) >>> n) ^^^ (x ^^^ x >>> n) >>> (n + n) = x := by
  apply BitVec.eq_of_getLsbD_eq
  intro i hi
  simp only [BitVec.getLsbD_xor, BitVec.getLsbD_ushiftRight]
  have e : x.getLsbD (n + (n + n + i)) = false := BitVec.getLsbD_of_ge _ _ (by omega)
  rw [e, show n + (n + i) = n + n + i by omega]
  cases x.getLsbD i <;> cases x.getLsbD (n + i) <;> cases x.getLsbD (n + n + i) <;> rfl
theorem own_xy (z : Int64) (k j : Int32) (n : Nat) (hk : (k &&& 0x3f).toInt64.toUInt64.toBitVec % 64 = BitVec.ofNat 64 n) (hj : (j &&& 0x3f).toInt64.toUInt64.toBitVec % 64 = BitVec.ofNat 64 (n + n)) (hn : n + n < 64) (h : 64 ≤ 3 * n) : own_y (own_x z k) k j = z := by
  apply Int64.toBitVec_inj.mp
  have e1 : ∀ w : Int64, (own_x w k).toBitVec = w.toBitVec ^^^ w.toBitVec >>> n := fun w => by
    show (w ^^^ own_sh w k).toBitVec = _
    rw [Int64.toBitVec_xor, own_shB w k n hk (by omega)]
  show ((own_x z k ^^^ own_sh (own_x z k) k) ^^^ own_sh (own_x z k) j).toBitVec = _
  rw [Int64.toBitVec_xor, Int64.toBitVec_xor, own_shB _ k n hk (by omega), own_shB _ j (n + n) hj hn, e1]
  exact own_bits _ _ h
theorem own_un (z c : Int64) (h : c * own_inv c = 1) : z * c * own_inv c = z := by rw [Int64.mul_assoc, h, Int64.mul_one]
theorem own_law (z : Int64) : own_unmix (own_mix z) = z := by
  unfold own_unmix own_mix
  rw [own_xy _ 31 62 31 (by decide) (by decide) (by decide) (by decide), own_un _ _ (by decide), own_xy _ 27 54 27 (by decide) (by decide) (by decide) (by decide), own_un _ _ (by decide), own_xy _ 30 60 30 (by decide) (by decide) (by decide) (by decide)]
theorem d1_0 : decode prog_11_method_1_code 0 = .ok (.aload_n 0, 1) := by decide +kernel
theorem d1_1 : decode prog_11_method_1_code 1 = .ok (.invokespecial 1, 3) := by decide +kernel
theorem d1_4 : decode prog_11_method_1_code 4 = .ok (.aload_n 0, 1) := by decide +kernel
theorem d1_5 : decode prog_11_method_1_code 5 = .ok (.lload_n 1, 1) := by decide +kernel
theorem d1_6 : decode prog_11_method_1_code 6 = .ok (.putfield 7, 3) := by decide +kernel
theorem d1_9 : decode prog_11_method_1_code 9 = .ok (.return_, 1) := by decide +kernel
theorem pn1 : plainName "com/example/nimble_trace/nimbletrace/SeededRandom" = true := by first | (simp [plainName, overriddenIn]; done) | decide +kernel
theorem ef1 (m : MethodId) (r0 : Addr) (q1 : Int64) : entryFrame m #[(.ref r0), (.long q1)] 3 = mkF m 0 #[.val (.ref r0), .val (.long q1), .second] [] := by first | (simp [entryFrame, mkF, argsToLocals, Value.category]; done) | rfl
def Q1 (Z : State) (r0 : Addr) (q1 : Int64) (h0 : Heap) (n0 : Nat) (v : Option Value) (h : Heap) (L : List Loc) : Prop := v = none ∧ Fr n0 L ∧ Keep h0 h [r0] ∧ Exa Z h r0 "com/example/nimble_trace/nimbletrace/SeededRandom" ∧ Fld Z h r0 "com/example/nimble_trace/nimbletrace/SeededRandom" "state" "J" (.long q1)
set_option maxRecDepth 65536 in
set_option maxHeartbeats 40000000 in
theorem rm1 (l : Launch) (Z : State) (a0 : Array Value) (hw : ∀ d ∈ tables_1, d.before a0 Z = true) (ws : List Jvm.Cond) (r0 : Addr) (q1 : Int64) (h0 : Heap) (n0 : Nat) (Z0 : n0 ≤ h0.size) (E_r0 : Exa Z h0 r0 "com/example/nimble_trace/nimbletrace/SeededRandom") (g_r0 : n0 ≤ r0) (F_state_r0 : Fld Z h0 r0 "com/example/nimble_trace/nimbletrace/SeededRandom" "state" "J" (.long (0 : Int64))) :
    MetFree l (⟨"com/example/nimble_trace/nimbletrace/SeededRandom", "<init>", "(J)V"⟩ : MethodName) (head1 (Jvm.Cond.code (⟨"com/example/nimble_trace/nimbletrace/SeededRandom", "<init>", "(J)V"⟩ : MethodName) prog_11_method_1_code 3 none :: ws) ({ frames := 1, cells := 0, slots := 0, locals := 12 } : Room)) (fun a U => a = #[(.ref r0), (.long q1)] ∧ Z.Warmed39 U.vm ∧ U.heap = h0) (fun _ _ _ _ _ => True) (fun _ U o U' => ∃ v L, o = .returned v ∧ Q1 Z r0 q1 h0 n0 v U'.heap L ∧ FrameEnd U o U' L ({ frames := 1, cells := 0, slots := 0, locals := 12 } : Room).cells ({ frames := 1, cells := 0, slots := 0, locals := 12 } : Room).slots) := by
  refine MetFree.of_bodySF (plainFor_of_name pn1) hisR ?_
  intro p e s m args below meth c s₁ Bd hml0 hP hK
  obtain ⟨rfl, hZ, hh⟩ := hP
  have hx := Bd.exec
  have hby := Bd.bytes
  have hml : c.maxLocals = 3 := hml0
  have hown : s.vm.findClass "com/example/nimble_trace/nimbletrace/SeededRandom" = some m.cls := findClass_of_methodNamed Bd.named
  have hnm := (name_of_methodNamed Bd.named Bd.method).1
  have X0 : Stand p l e ({ frames := 1, cells := 0, slots := 0, locals := 12 } : Room) s m #[(.ref r0), (.long q1)] below meth c s₁ [] 0 0 := Stand.of_body Bd
  have e0 : s₁.heap = h0 := by rw [← hh, Bd.state]; rfl
  have N0 := Fr.nil n0
  have K0 : Keep h0 h0 [r0] := Keep.refl h0 _
  refine own_in ?_
  refine own_go (B := s₁.setTop (mkF m 0 #[.val (.ref r0), .val (.long q1), .second] [])) (fun t k => castTop (ef1 m r0 q1) k) ?_
  refine own_go (B := s₁.setTop (mkF m 1 #[.val (.ref r0), .val (.long q1), .second] [(.ref r0)])) (fun t k => ?_) ?_
  · show Steps p.tables e below (s₁.setTop (mkF m 0 #[.val (.ref r0), .val (.long q1), .second] [])) t
    refine XS.aloadN X0.here hx rfl (hb hby d1_0) rfl rfl ?_
    exact k
  obtain ⟨T1, X1, e1, st1⟩ := initO X0 hx hZ hown (hw _ (List.mem_of_getElem? (i := 7) rfl)) (hw _ (List.mem_of_getElem? (i := 8) rfl)) (hw _ (List.mem_of_getElem? (i := 9) rfl)) e0 (g := (mkF m 1 #[.val (.ref r0), .val (.long q1), .second] [(.ref r0)])) rfl (by rw [hml]; rfl) rfl (hb hby d1_1) (by decide) (W := 0) (by show 2 * 0 + _ ≤ _; exact Nat.le_of_eq rfl) (by decide)
  refine own_go st1 ?_
  show own_Fin p.tables e below (T1.setTop (mkF m 4 #[.val (.ref r0), .val (.long q1), .second] [])) _
  refine own_go (B := T1.setTop (mkF m 6 #[.val (.ref r0), .val (.long q1), .second] [(.long q1), (.ref r0)])) (fun t k => ?_) ?_
  · show Steps p.tables e below (T1.setTop (mkF m 4 #[.val (.ref r0), .val (.long q1), .second] [])) t
    refine XS.aloadN X1.here hx rfl (hb hby d1_4) rfl rfl ?_
    refine XS.lloadN X1.here hx rfl (hb hby d1_5) rfl ?_
    exact k
  obtain ⟨T2, h2, X2, e2, W2, st2⟩ := putF X1 hx hZ hown (host := "") (Or.inl (hw _ (List.mem_of_getElem? (i := 10) rfl))) Via.refl e1 F_state_r0 E_r0 (Or.inl (hw _ (List.mem_of_getElem? (i := 11) rfl))) (hw _ (List.mem_of_getElem? (i := 2) rfl)) (ty := .long) (by decide) rfl rfl (g := (mkF m 6 #[.val (.ref r0), .val (.long q1), .second] [(.long q1), (.ref r0)])) rfl rfl (hb hby d1_6)
  have N2 := Fr.snoc X2 N0 g_r0
  have K2 : Keep h0 h2 [r0] := K0.wr W2 (Or.inl (by simp))
  have Fw2 := F_state_r0.same W2
  refine own_go st2 ?_
  show own_Fin p.tables e below (T2.setTop (mkF m 9 #[.val (.ref r0), .val (.long q1), .second] [])) _
  obtain ⟨fs, hr, hrun, hended, hW, hsame⟩ := X2.leave (v := none) (fun _ => rfl)
  refine ⟨_, _, ?_, hrun, hended, _, _, rfl, ?_, ⟨_, rfl⟩, hW, hsame.mono (by decide) (by decide)⟩
  · exact X2.returnOut hx Bd.returns (hb hby d1_9) hr
  · show Q1 Z r0 q1 h0 n0 _ T2.heap _
    rw [e2]
    have f4 := (E_r0.wr W2)
    exact ⟨rfl, N2, K2, f4, Fw2⟩
theorem d2_0 : decode prog_11_method_2_code 0 = .ok (.aload_n 0, 1) := by decide +kernel
theorem d2_1 : decode prog_11_method_2_code 1 = .ok (.dup, 1) := by decide +kernel
theorem d2_2 : decode prog_11_method_2_code 2 = .ok (.getfield 7, 3) := by decide +kernel
theorem d2_5 : decode prog_11_method_2_code 5 = .ok (.ldc2_w 13, 3) := by decide +kernel
theorem d2_8 : decode prog_11_method_2_code 8 = .ok (.ladd, 1) := by decide +kernel
theorem d2_9 : decode prog_11_method_2_code 9 = .ok (.putfield 7, 3) := by decide +kernel
theorem d2_12 : decode prog_11_method_2_code 12 = .ok (.aload_n 0, 1) := by decide +kernel
theorem d2_13 : decode prog_11_method_2_code 13 = .ok (.getfield 7, 3) := by decide +kernel
theorem d2_16 : decode prog_11_method_2_code 16 = .ok (.lstore_n 1, 1) := by decide +kernel
theorem d2_17 : decode prog_11_method_2_code 17 = .ok (.lload_n 1, 1) := by decide +kernel
theorem d2_18 : decode prog_11_method_2_code 18 = .ok (.lload_n 1, 1) := by decide +kernel
theorem d2_19 : decode prog_11_method_2_code 19 = .ok (.bipush 30, 2) := by decide +kernel
theorem d2_21 : decode prog_11_method_2_code 21 = .ok (.lushr, 1) := by decide +kernel
theorem d2_22 : decode prog_11_method_2_code 22 = .ok (.lxor, 1) := by decide +kernel
theorem d2_23 : decode prog_11_method_2_code 23 = .ok (.ldc2_w 15, 3) := by decide +kernel
theorem d2_26 : decode prog_11_method_2_code 26 = .ok (.lmul, 1) := by decide +kernel
theorem d2_27 : decode prog_11_method_2_code 27 = .ok (.lstore_n 1, 1) := by decide +kernel
theorem d2_28 : decode prog_11_method_2_code 28 = .ok (.lload_n 1, 1) := by decide +kernel
theorem d2_29 : decode prog_11_method_2_code 29 = .ok (.lload_n 1, 1) := by decide +kernel
theorem d2_30 : decode prog_11_method_2_code 30 = .ok (.bipush 27, 2) := by decide +kernel
theorem d2_32 : decode prog_11_method_2_code 32 = .ok (.lushr, 1) := by decide +kernel
theorem d2_33 : decode prog_11_method_2_code 33 = .ok (.lxor, 1) := by decide +kernel
theorem d2_34 : decode prog_11_method_2_code 34 = .ok (.ldc2_w 17, 3) := by decide +kernel
theorem d2_37 : decode prog_11_method_2_code 37 = .ok (.lmul, 1) := by decide +kernel
theorem d2_38 : decode prog_11_method_2_code 38 = .ok (.lstore_n 1, 1) := by decide +kernel
theorem d2_39 : decode prog_11_method_2_code 39 = .ok (.lload_n 1, 1) := by decide +kernel
theorem d2_40 : decode prog_11_method_2_code 40 = .ok (.lload_n 1, 1) := by decide +kernel
theorem d2_41 : decode prog_11_method_2_code 41 = .ok (.bipush 31, 2) := by decide +kernel
theorem d2_43 : decode prog_11_method_2_code 43 = .ok (.lushr, 1) := by decide +kernel
theorem d2_44 : decode prog_11_method_2_code 44 = .ok (.lxor, 1) := by decide +kernel
theorem d2_45 : decode prog_11_method_2_code 45 = .ok (.lreturn, 1) := by decide +kernel
theorem pn2 : plainName "com/example/nimble_trace/nimbletrace/SeededRandom" = true := by first | (simp [plainName, overriddenIn]; done) | decide +kernel
theorem ef2 (m : MethodId) (r0 : Addr) : entryFrame m #[(.ref r0)] 3 = mkF m 0 #[.val (.ref r0), .unset, .unset] [] := by first | (simp [entryFrame, mkF, argsToLocals, Value.category]; done) | rfl
def Q2 (Z : State) (r0 : Addr) (u : Int64) (h0 : Heap) (n0 : Nat) (v : Option Value) (h : Heap) (L : List Loc) : Prop := v = some (.long (own_mix (u + (-7046029254386353131 : Int64)))) ∧ Fr n0 L ∧ Keep h0 h [r0] ∧ Exa Z h r0 "com/example/nimble_trace/nimbletrace/SeededRandom" ∧ Fld Z h r0 "com/example/nimble_trace/nimbletrace/SeededRandom" "state" "J" (.long (u + (-7046029254386353131 : Int64)))
set_option maxRecDepth 65536 in
set_option maxHeartbeats 40000000 in
theorem rm2 (l : Launch) (Z : State) (a0 : Array Value) (hw : ∀ d ∈ tables_1, d.before a0 Z = true) (ws : List Jvm.Cond) (r0 : Addr) (u : Int64) (h0 : Heap) (n0 : Nat) (Z0 : n0 ≤ h0.size) (E_r0 : Exa Z h0 r0 "com/example/nimble_trace/nimbletrace/SeededRandom") (g_r0 : n0 ≤ r0) (F_st : Fld Z h0 r0 "com/example/nimble_trace/nimbletrace/SeededRandom" "state" "J" (.long u)) :
    MetFree l (⟨"com/example/nimble_trace/nimbletrace/SeededRandom", "nextLong", "()J"⟩ : MethodName) (head1 (Jvm.Cond.code (⟨"com/example/nimble_trace/nimbletrace/SeededRandom", "nextLong", "()J"⟩ : MethodName) prog_11_method_2_code 3 (some .long) :: ws) ({ frames := 0, cells := 0, slots := 0, locals := 0 } : Room)) (fun a U => a = #[(.ref r0)] ∧ Z.Warmed39 U.vm ∧ U.heap = h0) (fun _ _ _ _ _ => True) (fun _ U o U' => ∃ v L, o = .returned v ∧ Q2 Z r0 u h0 n0 v U'.heap L ∧ FrameEnd U o U' L ({ frames := 0, cells := 0, slots := 0, locals := 0 } : Room).cells ({ frames := 0, cells := 0, slots := 0, locals := 0 } : Room).slots) := by
  refine MetFree.of_bodySF (plainFor_of_name pn2) hisR ?_
  intro p e s m args below meth c s₁ Bd hml0 hP hK
  obtain ⟨rfl, hZ, hh⟩ := hP
  have hx := Bd.exec
  have hby := Bd.bytes
  have hml : c.maxLocals = 3 := hml0
  have hown : s.vm.findClass "com/example/nimble_trace/nimbletrace/SeededRandom" = some m.cls := findClass_of_methodNamed Bd.named
  have hnm := (name_of_methodNamed Bd.named Bd.method).1
  have X0 : Stand p l e ({ frames := 0, cells := 0, slots := 0, locals := 0 } : Room) s m #[(.ref r0)] below meth c s₁ [] 0 0 := Stand.of_body Bd
  have e0 : s₁.heap = h0 := by rw [← hh, Bd.state]; rfl
  have N0 := Fr.nil n0
  have K0 : Keep h0 h0 [r0] := Keep.refl h0 _
  refine own_in ?_
  refine own_go (B := s₁.setTop (mkF m 0 #[.val (.ref r0), .unset, .unset] [])) (fun t k => castTop (ef2 m r0) k) ?_
  refine own_go (B := s₁.setTop (mkF m 2 #[.val (.ref r0), .unset, .unset] [(.ref r0), (.ref r0)])) (fun t k => ?_) ?_
  · show Steps p.tables e below (s₁.setTop (mkF m 0 #[.val (.ref r0), .unset, .unset] [])) t
    refine XS.aloadN X0.here hx rfl (hb hby d2_0) rfl rfl ?_
    refine XS.dup X0.here hx rfl (hb hby d2_1) rfl rfl ?_
    exact k
  obtain ⟨T1, X1, e1, st1⟩ := getF X0 hx hZ hown (host := "") (Or.inl (hw _ (List.mem_of_getElem? (i := 10) rfl))) Via.refl e0 F_st (g := (mkF m 2 #[.val (.ref r0), .unset, .unset] [(.ref r0), (.ref r0)])) rfl rfl (hb hby d2_2)
  refine own_go st1 ?_
  show own_Fin p.tables e below (T1.setTop (mkF m 5 #[.val (.ref r0), .unset, .unset] [(.long u), (.ref r0)])) _
  refine own_go (B := T1.setTop (mkF m 9 #[.val (.ref r0), .unset, .unset] [(.long (u + (-7046029254386353131 : Int64))), (.ref r0)])) (fun t k => ?_) ?_
  · show Steps p.tables e below (T1.setTop (mkF m 5 #[.val (.ref r0), .unset, .unset] [(.long u), (.ref r0)])) t
    refine X1.ldc2J hx hown (mvT hZ (hw _ (List.mem_of_getElem? (i := 17) rfl))) rfl (hb hby d2_5) ?_
    refine XS.ladd X1.here hx rfl (hb hby d2_8) rfl ?_
    exact k
  obtain ⟨T2, h2, X2, e2, W2, st2⟩ := putF X1 hx hZ hown (host := "") (Or.inl (hw _ (List.mem_of_getElem? (i := 10) rfl))) Via.refl e1 F_st E_r0 (Or.inl (hw _ (List.mem_of_getElem? (i := 11) rfl))) (hw _ (List.mem_of_getElem? (i := 2) rfl)) (ty := .long) (by decide) rfl rfl (g := (mkF m 9 #[.val (.ref r0), .unset, .unset] [(.long (u + (-7046029254386353131 : Int64))), (.ref r0)])) rfl rfl (hb hby d2_9)
  have N2 := Fr.snoc X2 N0 g_r0
  have K2 : Keep h0 h2 [r0] := K0.wr W2 (Or.inl (by simp))
  have Fw2 := F_st.same W2
  refine own_go st2 ?_
  show own_Fin p.tables e below (T2.setTop (mkF m 12 #[.val (.ref r0), .unset, .unset] [])) _
  refine own_go (B := T2.setTop (mkF m 13 #[.val (.ref r0), .unset, .unset] [(.ref r0)])) (fun t k => ?_) ?_
  · show Steps p.tables e below (T2.setTop (mkF m 12 #[.val (.ref r0), .unset, .unset] [])) t
    refine XS.aloadN X2.here hx rfl (hb hby d2_12) rfl rfl ?_
    exact k
  obtain ⟨T3, X3, e3, st3⟩ := getF X2 hx hZ hown (host := "") (Or.inl (hw _ (List.mem_of_getElem? (i := 10) rfl))) Via.refl e2 Fw2 (g := (mkF m 13 #[.val (.ref r0), .unset, .unset] [(.ref r0)])) rfl rfl (hb hby d2_13)
  refine own_go st3 ?_
  show own_Fin p.tables e below (T3.setTop (mkF m 16 #[.val (.ref r0), .unset, .unset] [(.long (u + (-7046029254386353131 : Int64)))])) _
  refine own_go (B := T3.setTop (mkF m 45 #[.val (.ref r0), .val (.long (own_x (own_x (u + (-7046029254386353131 : Int64)) 30 * (-4658895280553007687 : Int64)) 27 * (-7723592293110705685 : Int64))), .second] [(.long (own_mix (u + (-7046029254386353131 : Int64))))])) (fun t k => ?_) ?_
  · show Steps p.tables e below (T3.setTop (mkF m 16 #[.val (.ref r0), .unset, .unset] [(.long (u + (-7046029254386353131 : Int64)))])) t
    refine XS.lstoreN X3.here hx rfl (hb hby d2_16) rfl (l' := #[.val (.ref r0), .val (.long (u + (-7046029254386353131 : Int64))), .second]) rfl ?_
    refine XS.lloadN X3.here hx rfl (hb hby d2_17) rfl ?_
    refine XS.lloadN X3.here hx rfl (hb hby d2_18) rfl ?_
    refine XS.bipush X3.here hx rfl (hb hby d2_19) ?_
    show Steps p.tables e below (T3.setTop (mkF m 21 #[.val (.ref r0), .val (.long (u + (-7046029254386353131 : Int64))), .second] [(.int (30 : Int32)), (.long (u + (-7046029254386353131 : Int64))), (.long (u + (-7046029254386353131 : Int64)))])) t
    refine XS.lushr X3.here hx rfl (hb hby d2_21) rfl ?_
    refine XS.lxor X3.here hx rfl (hb hby d2_22) rfl ?_
    refine X3.ldc2J hx hown (mvT hZ (hw _ (List.mem_of_getElem? (i := 18) rfl))) rfl (hb hby d2_23) ?_
    refine XS.lmul X3.here hx rfl (hb hby d2_26) rfl ?_
    show Steps p.tables e below (T3.setTop (mkF m 27 #[.val (.ref r0), .val (.long (u + (-7046029254386353131 : Int64))), .second] [(.long (own_x (u + (-7046029254386353131 : Int64)) 30 * (-4658895280553007687 : Int64)))])) t
    refine XS.lstoreN X3.here hx rfl (hb hby d2_27) rfl (l' := #[.val (.ref r0), .val (.long (own_x (u + (-7046029254386353131 : Int64)) 30 * (-4658895280553007687 : Int64))), .second]) rfl ?_
    refine XS.lloadN X3.here hx rfl (hb hby d2_28) rfl ?_
    refine XS.lloadN X3.here hx rfl (hb hby d2_29) rfl ?_
    refine XS.bipush X3.here hx rfl (hb hby d2_30) ?_
    show Steps p.tables e below (T3.setTop (mkF m 32 #[.val (.ref r0), .val (.long (own_x (u + (-7046029254386353131 : Int64)) 30 * (-4658895280553007687 : Int64))), .second] [(.int (27 : Int32)), (.long (own_x (u + (-7046029254386353131 : Int64)) 30 * (-4658895280553007687 : Int64))), (.long (own_x (u + (-7046029254386353131 : Int64)) 30 * (-4658895280553007687 : Int64)))])) t
    refine XS.lushr X3.here hx rfl (hb hby d2_32) rfl ?_
    refine XS.lxor X3.here hx rfl (hb hby d2_33) rfl ?_
    refine X3.ldc2J hx hown (mvT hZ (hw _ (List.mem_of_getElem? (i := 19) rfl))) rfl (hb hby d2_34) ?_
    refine XS.lmul X3.here hx rfl (hb hby d2_37) rfl ?_
    show Steps p.tables e below (T3.setTop (mkF m 38 #[.val (.ref r0), .val (.long (own_x (u + (-7046029254386353131 : Int64)) 30 * (-4658895280553007687 : Int64))), .second] [(.long (own_x (own_x (u + (-7046029254386353131 : Int64)) 30 * (-4658895280553007687 : Int64)) 27 * (-7723592293110705685 : Int64)))])) t
    refine XS.lstoreN X3.here hx rfl (hb hby d2_38) rfl (l' := #[.val (.ref r0), .val (.long (own_x (own_x (u + (-7046029254386353131 : Int64)) 30 * (-4658895280553007687 : Int64)) 27 * (-7723592293110705685 : Int64))), .second]) rfl ?_
    refine XS.lloadN X3.here hx rfl (hb hby d2_39) rfl ?_
    refine XS.lloadN X3.here hx rfl (hb hby d2_40) rfl ?_
    refine XS.bipush X3.here hx rfl (hb hby d2_41) ?_
    show Steps p.tables e below (T3.setTop (mkF m 43 #[.val (.ref r0), .val (.long (own_x (own_x (u + (-7046029254386353131 : Int64)) 30 * (-4658895280553007687 : Int64)) 27 * (-7723592293110705685 : Int64))), .second] [(.int (31 : Int32)), (.long (own_x (own_x (u + (-7046029254386353131 : Int64)) 30 * (-4658895280553007687 : Int64)) 27 * (-7723592293110705685 : Int64))), (.long (own_x (own_x (u + (-7046029254386353131 : Int64)) 30 * (-4658895280553007687 : Int64)) 27 * (-7723592293110705685 : Int64)))])) t
    refine XS.lushr X3.here hx rfl (hb hby d2_43) rfl ?_
    refine XS.lxor X3.here hx rfl (hb hby d2_44) rfl ?_
    exact k
  obtain ⟨fs, hr, hrun, hended, hW, hsame⟩ := X3.leave (v := some (.long (own_mix (u + (-7046029254386353131 : Int64))))) (fun h => by rw [Bd.returns] at h; cases h)
  refine ⟨_, _, ?_, hrun, hended, _, _, rfl, ?_, ⟨_, rfl⟩, hW, hsame.mono (by decide) (by decide)⟩
  · exact retOut X3 hx (t := .long) Bd.returns rfl (Or.inr (Or.inl ⟨rfl, rfl, _, rfl⟩)) (hb hby d2_45) hr
  · show Q2 Z r0 u h0 n0 _ T3.heap _
    rw [e3]
    have f5 := (E_r0.wr W2)
    exact ⟨rfl, N2, K2, f5, Fw2⟩
theorem d3_0 : decode method_2_code 0 = .ok (.lload_n 0, 1) := by decide +kernel
theorem d3_1 : decode method_2_code 1 = .ok (.lstore_n 2, 1) := by decide +kernel
theorem d3_2 : decode method_2_code 2 = .ok (.lload_n 2, 1) := by decide +kernel
theorem d3_3 : decode method_2_code 3 = .ok (.ldc2_w 7, 3) := by decide +kernel
theorem d3_6 : decode method_2_code 6 = .ok (.lload_n 0, 1) := by decide +kernel
theorem d3_7 : decode method_2_code 7 = .ok (.lload_n 2, 1) := by decide +kernel
theorem d3_8 : decode method_2_code 8 = .ok (.lmul, 1) := by decide +kernel
theorem d3_9 : decode method_2_code 9 = .ok (.lsub, 1) := by decide +kernel
theorem d3_10 : decode method_2_code 10 = .ok (.lmul, 1) := by decide +kernel
theorem d3_11 : decode method_2_code 11 = .ok (.lstore_n 2, 1) := by decide +kernel
theorem d3_12 : decode method_2_code 12 = .ok (.lload_n 2, 1) := by decide +kernel
theorem d3_13 : decode method_2_code 13 = .ok (.ldc2_w 7, 3) := by decide +kernel
theorem d3_16 : decode method_2_code 16 = .ok (.lload_n 0, 1) := by decide +kernel
theorem d3_17 : decode method_2_code 17 = .ok (.lload_n 2, 1) := by decide +kernel
theorem d3_18 : decode method_2_code 18 = .ok (.lmul, 1) := by decide +kernel
theorem d3_19 : decode method_2_code 19 = .ok (.lsub, 1) := by decide +kernel
theorem d3_20 : decode method_2_code 20 = .ok (.lmul, 1) := by decide +kernel
theorem d3_21 : decode method_2_code 21 = .ok (.lstore_n 2, 1) := by decide +kernel
theorem d3_22 : decode method_2_code 22 = .ok (.lload_n 2, 1) := by decide +kernel
theorem d3_23 : decode method_2_code 23 = .ok (.ldc2_w 7, 3) := by decide +kernel
theorem d3_26 : decode method_2_code 26 = .ok (.lload_n 0, 1) := by decide +kernel
theorem d3_27 : decode method_2_code 27 = .ok (.lload_n 2, 1) := by decide +kernel
theorem d3_28 : decode method_2_code 28 = .ok (.lmul, 1) := by decide +kernel
theorem d3_29 : decode method_2_code 29 = .ok (.lsub, 1) := by decide +kernel
theorem d3_30 : decode method_2_code 30 = .ok (.lmul, 1) := by decide +kernel
theorem d3_31 : decode method_2_code 31 = .ok (.lstore_n 2, 1) := by decide +kernel
theorem d3_32 : decode method_2_code 32 = .ok (.lload_n 2, 1) := by decide +kernel
theorem d3_33 : decode method_2_code 33 = .ok (.ldc2_w 7, 3) := by decide +kernel
theorem d3_36 : decode method_2_code 36 = .ok (.lload_n 0, 1) := by decide +kernel
theorem d3_37 : decode method_2_code 37 = .ok (.lload_n 2, 1) := by decide +kernel
theorem d3_38 : decode method_2_code 38 = .ok (.lmul, 1) := by decide +kernel
theorem d3_39 : decode method_2_code 39 = .ok (.lsub, 1) := by decide +kernel
theorem d3_40 : decode method_2_code 40 = .ok (.lmul, 1) := by decide +kernel
theorem d3_41 : decode method_2_code 41 = .ok (.lstore_n 2, 1) := by decide +kernel
theorem d3_42 : decode method_2_code 42 = .ok (.lload_n 2, 1) := by decide +kernel
theorem d3_43 : decode method_2_code 43 = .ok (.ldc2_w 7, 3) := by decide +kernel
theorem d3_46 : decode method_2_code 46 = .ok (.lload_n 0, 1) := by decide +kernel
theorem d3_47 : decode method_2_code 47 = .ok (.lload_n 2, 1) := by decide +kernel
theorem d3_48 : decode method_2_code 48 = .ok (.lmul, 1) := by decide +kernel
theorem d3_49 : decode method_2_code 49 = .ok (.lsub, 1) := by decide +kernel
theorem d3_50 : decode method_2_code 50 = .ok (.lmul, 1) := by decide +kernel
theorem d3_51 : decode method_2_code 51 = .ok (.lstore_n 2, 1) := by decide +kernel
theorem d3_52 : decode method_2_code 52 = .ok (.lload_n 2, 1) := by decide +kernel
theorem d3_53 : decode method_2_code 53 = .ok (.lreturn, 1) := by decide +kernel
theorem pn3 : plainName "com/example/nimble_trace/nimbletrace/SeededRandomNextLongPinLaw" = true := by first | (simp [plainName, overriddenIn]; done) | decide +kernel
theorem ef3 (m : MethodId) (q0 : Int64) : entryFrame m #[(.long q0)] 4 = mkF m 0 #[.val (.long q0), .second, .unset, .unset] [] := by first | (simp [entryFrame, mkF, argsToLocals, Value.category]; done) | rfl
def Q3 (Z : State) (q0 : Int64) (h0 : Heap) (n0 : Nat) (v : Option Value) (h : Heap) (L : List Loc) : Prop := v = some (.long (own_inv q0)) ∧ Fr n0 L ∧ h = h0
set_option maxRecDepth 65536 in
set_option maxHeartbeats 40000000 in
theorem rm3 (l : Launch) (Z : State) (a0 : Array Value) (hw : ∀ d ∈ tables_1, d.before a0 Z = true) (ws : List Jvm.Cond) (q0 : Int64) (h0 : Heap) (n0 : Nat) (Z0 : n0 ≤ h0.size) :
    MetFree l (⟨"com/example/nimble_trace/nimbletrace/SeededRandomNextLongPinLaw", "inverseOdd", "(J)J"⟩ : MethodName) (head1 (Jvm.Cond.code (⟨"com/example/nimble_trace/nimbletrace/SeededRandomNextLongPinLaw", "inverseOdd", "(J)J"⟩ : MethodName) method_2_code 4 (some .long) :: ws) ({ frames := 0, cells := 0, slots := 0, locals := 0 } : Room)) (fun a U => a = #[(.long q0)] ∧ Z.Warmed39 U.vm ∧ U.heap = h0) (fun _ _ _ _ _ => True) (fun _ U o U' => ∃ v L, o = .returned v ∧ Q3 Z q0 h0 n0 v U'.heap L ∧ FrameEnd U o U' L ({ frames := 0, cells := 0, slots := 0, locals := 0 } : Room).cells ({ frames := 0, cells := 0, slots := 0, locals := 0 } : Room).slots) := by
  refine MetFree.of_bodySF (plainFor_of_name pn3) hisR ?_
  intro p e s m args below meth c s₁ Bd hml0 hP hK
  obtain ⟨rfl, hZ, hh⟩ := hP
  have hx := Bd.exec
  have hby := Bd.bytes
  have hml : c.maxLocals = 4 := hml0
  have hown : s.vm.findClass "com/example/nimble_trace/nimbletrace/SeededRandomNextLongPinLaw" = some m.cls := findClass_of_methodNamed Bd.named
  have hnm := (name_of_methodNamed Bd.named Bd.method).1
  have X0 : Stand p l e ({ frames := 0, cells := 0, slots := 0, locals := 0 } : Room) s m #[(.long q0)] below meth c s₁ [] 0 0 := Stand.of_body Bd
  have e0 : s₁.heap = h0 := by rw [← hh, Bd.state]; rfl
  have N0 := Fr.nil n0
  have K0 : Keep h0 h0 [] := Keep.refl h0 _
  refine own_in ?_
  refine own_go (B := s₁.setTop (mkF m 0 #[.val (.long q0), .second, .unset, .unset] [])) (fun t k => castTop (ef3 m q0) k) ?_
  refine own_go (B := s₁.setTop (mkF m 53 #[.val (.long q0), .second, .val (.long (own_inv q0)), .second] [(.long (own_inv q0))])) (fun t k => ?_) ?_
  · show Steps p.tables e below (s₁.setTop (mkF m 0 #[.val (.long q0), .second, .unset, .unset] [])) t
    refine XS.lloadN X0.here hx rfl (hb hby d3_0) rfl ?_
    refine XS.lstoreN X0.here hx rfl (hb hby d3_1) rfl (l' := #[.val (.long q0), .second, .val (.long q0), .second]) rfl ?_
    refine XS.lloadN X0.here hx rfl (hb hby d3_2) rfl ?_
    refine X0.ldc2J hx hown (mvT hZ (hw _ (List.mem_of_getElem? (i := 28) rfl))) rfl (hb hby d3_3) ?_
    show Steps p.tables e below (s₁.setTop (mkF m 6 #[.val (.long q0), .second, .val (.long q0), .second] [(.long (2 : Int64)), (.long q0)])) t
    refine XS.lloadN X0.here hx rfl (hb hby d3_6) rfl ?_
    refine XS.lloadN X0.here hx rfl (hb hby d3_7) rfl ?_
    refine XS.lmul X0.here hx rfl (hb hby d3_8) rfl ?_
    refine XS.lsub X0.here hx rfl (hb hby d3_9) rfl ?_
    show Steps p.tables e below (s₁.setTop (mkF m 10 #[.val (.long q0), .second, .val (.long q0), .second] [(.long ((2 : Int64) - (q0 * q0))), (.long q0)])) t
    refine XS.lmul X0.here hx rfl (hb hby d3_10) rfl ?_
    refine XS.lstoreN X0.here hx rfl (hb hby d3_11) rfl (l' := #[.val (.long q0), .second, .val (.long (own_st q0 q0)), .second]) rfl ?_
    refine XS.lloadN X0.here hx rfl (hb hby d3_12) rfl ?_
    refine X0.ldc2J hx hown (mvT hZ (hw _ (List.mem_of_getElem? (i := 28) rfl))) rfl (hb hby d3_13) ?_
    show Steps p.tables e below (s₁.setTop (mkF m 16 #[.val (.long q0), .second, .val (.long (own_st q0 q0)), .second] [(.long (2 : Int64)), (.long (own_st q0 q0))])) t
    refine XS.lloadN X0.here hx rfl (hb hby d3_16) rfl ?_
    refine XS.lloadN X0.here hx rfl (hb hby d3_17) rfl ?_
    refine XS.lmul X0.here hx rfl (hb hby d3_18) rfl ?_
    refine XS.lsub X0.here hx rfl (hb hby d3_19) rfl ?_
    show Steps p.tables e below (s₁.setTop (mkF m 20 #[.val (.long q0), .second, .val (.long (own_st q0 q0)), .second] [(.long ((2 : Int64) - (q0 * (own_st q0 q0)))), (.long (own_st q0 q0))])) t
    refine XS.lmul X0.here hx rfl (hb hby d3_20) rfl ?_
    refine XS.lstoreN X0.here hx rfl (hb hby d3_21) rfl (l' := #[.val (.long q0), .second, .val (.long (own_st q0 (own_st q0 q0))), .second]) rfl ?_
    refine XS.lloadN X0.here hx rfl (hb hby d3_22) rfl ?_
    refine X0.ldc2J hx hown (mvT hZ (hw _ (List.mem_of_getElem? (i := 28) rfl))) rfl (hb hby d3_23) ?_
    show Steps p.tables e below (s₁.setTop (mkF m 26 #[.val (.long q0), .second, .val (.long (own_st q0 (own_st q0 q0))), .second] [(.long (2 : Int64)), (.long (own_st q0 (own_st q0 q0)))])) t
    refine XS.lloadN X0.here hx rfl (hb hby d3_26) rfl ?_
    refine XS.lloadN X0.here hx rfl (hb hby d3_27) rfl ?_
    refine XS.lmul X0.here hx rfl (hb hby d3_28) rfl ?_
    refine XS.lsub X0.here hx rfl (hb hby d3_29) rfl ?_
    show Steps p.tables e below (s₁.setTop (mkF m 30 #[.val (.long q0), .second, .val (.long (own_st q0 (own_st q0 q0))), .second] [(.long ((2 : Int64) - (q0 * (own_st q0 (own_st q0 q0))))), (.long (own_st q0 (own_st q0 q0)))])) t
    refine XS.lmul X0.here hx rfl (hb hby d3_30) rfl ?_
    refine XS.lstoreN X0.here hx rfl (hb hby d3_31) rfl (l' := #[.val (.long q0), .second, .val (.long (own_st q0 (own_st q0 (own_st q0 q0)))), .second]) rfl ?_
    refine XS.lloadN X0.here hx rfl (hb hby d3_32) rfl ?_
    refine X0.ldc2J hx hown (mvT hZ (hw _ (List.mem_of_getElem? (i := 28) rfl))) rfl (hb hby d3_33) ?_
    show Steps p.tables e below (s₁.setTop (mkF m 36 #[.val (.long q0), .second, .val (.long (own_st q0 (own_st q0 (own_st q0 q0)))), .second] [(.long (2 : Int64)), (.long (own_st q0 (own_st q0 (own_st q0 q0))))])) t
    refine XS.lloadN X0.here hx rfl (hb hby d3_36) rfl ?_
    refine XS.lloadN X0.here hx rfl (hb hby d3_37) rfl ?_
    refine XS.lmul X0.here hx rfl (hb hby d3_38) rfl ?_
    refine XS.lsub X0.here hx rfl (hb hby d3_39) rfl ?_
    show Steps p.tables e below (s₁.setTop (mkF m 40 #[.val (.long q0), .second, .val (.long (own_st q0 (own_st q0 (own_st q0 q0)))), .second] [(.long ((2 : Int64) - (q0 * (own_st q0 (own_st q0 (own_st q0 q0)))))), (.long (own_st q0 (own_st q0 (own_st q0 q0))))])) t
    refine XS.lmul X0.here hx rfl (hb hby d3_40) rfl ?_
    refine XS.lstoreN X0.here hx rfl (hb hby d3_41) rfl (l' := #[.val (.long q0), .second, .val (.long (own_st q0 (own_st q0 (own_st q0 (own_st q0 q0))))), .second]) rfl ?_
    refine XS.lloadN X0.here hx rfl (hb hby d3_42) rfl ?_
    refine X0.ldc2J hx hown (mvT hZ (hw _ (List.mem_of_getElem? (i := 28) rfl))) rfl (hb hby d3_43) ?_
    show Steps p.tables e below (s₁.setTop (mkF m 46 #[.val (.long q0), .second, .val (.long (own_st q0 (own_st q0 (own_st q0 (own_st q0 q0))))), .second] [(.long (2 : Int64)), (.long (own_st q0 (own_st q0 (own_st q0 (own_st q0 q0)))))])) t
    refine XS.lloadN X0.here hx rfl (hb hby d3_46) rfl ?_
    refine XS.lloadN X0.here hx rfl (hb hby d3_47) rfl ?_
    refine XS.lmul X0.here hx rfl (hb hby d3_48) rfl ?_
    refine XS.lsub X0.here hx rfl (hb hby d3_49) rfl ?_
    show Steps p.tables e below (s₁.setTop (mkF m 50 #[.val (.long q0), .second, .val (.long (own_st q0 (own_st q0 (own_st q0 (own_st q0 q0))))), .second] [(.long ((2 : Int64) - (q0 * (own_st q0 (own_st q0 (own_st q0 (own_st q0 q0))))))), (.long (own_st q0 (own_st q0 (own_st q0 (own_st q0 q0)))))])) t
    refine XS.lmul X0.here hx rfl (hb hby d3_50) rfl ?_
    refine XS.lstoreN X0.here hx rfl (hb hby d3_51) rfl (l' := #[.val (.long q0), .second, .val (.long (own_inv q0)), .second]) rfl ?_
    refine XS.lloadN X0.here hx rfl (hb hby d3_52) rfl ?_
    exact k
  obtain ⟨fs, hr, hrun, hended, hW, hsame⟩ := X0.leave (v := some (.long (own_inv q0))) (fun h => by rw [Bd.returns] at h; cases h)
  refine ⟨_, _, ?_, hrun, hended, _, _, rfl, ?_, ⟨_, rfl⟩, hW, hsame.mono (by decide) (by decide)⟩
  · exact retOut X0 hx (t := .long) Bd.returns rfl (Or.inr (Or.inl ⟨rfl, rfl, _, rfl⟩)) (hb hby d3_53) hr
  · show Q3 Z q0 h0 n0 _ s₁.heap _
    rw [e0]
    exact ⟨rfl, N0, rfl⟩
theorem d4_0 : decode method_3_code 0 = .ok (.lload_n 0, 1) := by decide +kernel
theorem d4_1 : decode method_3_code 1 = .ok (.lstore_n 2, 1) := by decide +kernel
theorem d4_2 : decode method_3_code 2 = .ok (.lload_n 2, 1) := by decide +kernel
theorem d4_3 : decode method_3_code 3 = .ok (.lload_n 2, 1) := by decide +kernel
theorem d4_4 : decode method_3_code 4 = .ok (.bipush 31, 2) := by decide +kernel
theorem d4_6 : decode method_3_code 6 = .ok (.lushr, 1) := by decide +kernel
theorem d4_7 : decode method_3_code 7 = .ok (.lxor, 1) := by decide +kernel
theorem d4_8 : decode method_3_code 8 = .ok (.lload_n 2, 1) := by decide +kernel
theorem d4_9 : decode method_3_code 9 = .ok (.bipush 62, 2) := by decide +kernel
theorem d4_11 : decode method_3_code 11 = .ok (.lushr, 1) := by decide +kernel
theorem d4_12 : decode method_3_code 12 = .ok (.lxor, 1) := by decide +kernel
theorem d4_13 : decode method_3_code 13 = .ok (.lstore_n 2, 1) := by decide +kernel
theorem d4_14 : decode method_3_code 14 = .ok (.lload_n 2, 1) := by decide +kernel
theorem d4_15 : decode method_3_code 15 = .ok (.ldc2_w 9, 3) := by decide +kernel
theorem d4_18 : decode method_3_code 18 = .ok (.invokestatic 11, 3) := by decide +kernel
theorem d4_21 : decode method_3_code 21 = .ok (.lmul, 1) := by decide +kernel
theorem d4_22 : decode method_3_code 22 = .ok (.lstore_n 2, 1) := by decide +kernel
theorem d4_23 : decode method_3_code 23 = .ok (.lload_n 2, 1) := by decide +kernel
theorem d4_24 : decode method_3_code 24 = .ok (.lload_n 2, 1) := by decide +kernel
theorem d4_25 : decode method_3_code 25 = .ok (.bipush 27, 2) := by decide +kernel
theorem d4_27 : decode method_3_code 27 = .ok (.lushr, 1) := by decide +kernel
theorem d4_28 : decode method_3_code 28 = .ok (.lxor, 1) := by decide +kernel
theorem d4_29 : decode method_3_code 29 = .ok (.lload_n 2, 1) := by decide +kernel
theorem d4_30 : decode method_3_code 30 = .ok (.bipush 54, 2) := by decide +kernel
theorem d4_32 : decode method_3_code 32 = .ok (.lushr, 1) := by decide +kernel
theorem d4_33 : decode method_3_code 33 = .ok (.lxor, 1) := by decide +kernel
theorem d4_34 : decode method_3_code 34 = .ok (.lstore_n 2, 1) := by decide +kernel
theorem d4_35 : decode method_3_code 35 = .ok (.lload_n 2, 1) := by decide +kernel
theorem d4_36 : decode method_3_code 36 = .ok (.ldc2_w 17, 3) := by decide +kernel
theorem d4_39 : decode method_3_code 39 = .ok (.invokestatic 11, 3) := by decide +kernel
theorem d4_42 : decode method_3_code 42 = .ok (.lmul, 1) := by decide +kernel
theorem d4_43 : decode method_3_code 43 = .ok (.lstore_n 2, 1) := by decide +kernel
theorem d4_44 : decode method_3_code 44 = .ok (.lload_n 2, 1) := by decide +kernel
theorem d4_45 : decode method_3_code 45 = .ok (.lload_n 2, 1) := by decide +kernel
theorem d4_46 : decode method_3_code 46 = .ok (.bipush 30, 2) := by decide +kernel
theorem d4_48 : decode method_3_code 48 = .ok (.lushr, 1) := by decide +kernel
theorem d4_49 : decode method_3_code 49 = .ok (.lxor, 1) := by decide +kernel
theorem d4_50 : decode method_3_code 50 = .ok (.lload_n 2, 1) := by decide +kernel
theorem d4_51 : decode method_3_code 51 = .ok (.bipush 60, 2) := by decide +kernel
theorem d4_53 : decode method_3_code 53 = .ok (.lushr, 1) := by decide +kernel
theorem d4_54 : decode method_3_code 54 = .ok (.lxor, 1) := by decide +kernel
theorem d4_55 : decode method_3_code 55 = .ok (.lstore_n 2, 1) := by decide +kernel
theorem d4_56 : decode method_3_code 56 = .ok (.lload_n 2, 1) := by decide +kernel
theorem d4_57 : decode method_3_code 57 = .ok (.lreturn, 1) := by decide +kernel
theorem pn4 : plainName "com/example/nimble_trace/nimbletrace/SeededRandomNextLongPinLaw" = true := by first | (simp [plainName, overriddenIn]; done) | decide +kernel
theorem pd4_0 : parseMethodDescriptor "(J)J" = some ⟨[.long], some .long⟩ := by decide +kernel
theorem ef4 (m : MethodId) (q0 : Int64) : entryFrame m #[(.long q0)] 4 = mkF m 0 #[.val (.long q0), .second, .unset, .unset] [] := by first | (simp [entryFrame, mkF, argsToLocals, Value.category]; done) | rfl
def Q4 (Z : State) (q0 : Int64) (h0 : Heap) (n0 : Nat) (v : Option Value) (h : Heap) (L : List Loc) : Prop := v = some (.long (own_unmix q0)) ∧ Fr n0 L ∧ h = h0
set_option maxRecDepth 65536 in
set_option maxHeartbeats 40000000 in
theorem rm4 (l : Launch) (Z : State) (a0 : Array Value) (hw : ∀ d ∈ tables_1, d.before a0 Z = true) (ws : List Jvm.Cond) (q0 : Int64) (h0 : Heap) (n0 : Nat) (Z0 : n0 ≤ h0.size) :
    MetFree l (⟨"com/example/nimble_trace/nimbletrace/SeededRandomNextLongPinLaw", "unmix", "(J)J"⟩ : MethodName) (head1 (Jvm.Cond.code (⟨"com/example/nimble_trace/nimbletrace/SeededRandomNextLongPinLaw", "unmix", "(J)J"⟩ : MethodName) method_3_code 4 (some .long) :: ws) ({ frames := 1, cells := 0, slots := 0, locals := 30 } : Room)) (fun a U => a = #[(.long q0)] ∧ Z.Warmed39 U.vm ∧ U.heap = h0) (fun _ _ _ _ _ => True) (fun _ U o U' => ∃ v L, o = .returned v ∧ Q4 Z q0 h0 n0 v U'.heap L ∧ FrameEnd U o U' L ({ frames := 1, cells := 0, slots := 0, locals := 30 } : Room).cells ({ frames := 1, cells := 0, slots := 0, locals := 30 } : Room).slots) := by
  refine MetFree.of_bodySF (plainFor_of_name pn4) hisR ?_
  intro p e s m args below meth c s₁ Bd hml0 hP hK
  obtain ⟨rfl, hZ, hh⟩ := hP
  have hx := Bd.exec
  have hby := Bd.bytes
  have hml : c.maxLocals = 4 := hml0
  have hown : s.vm.findClass "com/example/nimble_trace/nimbletrace/SeededRandomNextLongPinLaw" = some m.cls := findClass_of_methodNamed Bd.named
  have hnm := (name_of_methodNamed Bd.named Bd.method).1
  have X0 : Stand p l e ({ frames := 1, cells := 0, slots := 0, locals := 30 } : Room) s m #[(.long q0)] below meth c s₁ [] 0 0 := Stand.of_body Bd
  have e0 : s₁.heap = h0 := by rw [← hh, Bd.state]; rfl
  have N0 := Fr.nil n0
  have K0 : Keep h0 h0 [] := Keep.refl h0 _
  refine own_in ?_
  refine own_go (B := s₁.setTop (mkF m 0 #[.val (.long q0), .second, .unset, .unset] [])) (fun t k => castTop (ef4 m q0) k) ?_
  refine own_go (B := s₁.setTop (mkF m 18 #[.val (.long q0), .second, .val (.long (own_y q0 31 62)), .second] [(.long (-7723592293110705685 : Int64)), (.long (own_y q0 31 62))])) (fun t k => ?_) ?_
  · show Steps p.tables e below (s₁.setTop (mkF m 0 #[.val (.long q0), .second, .unset, .unset] [])) t
    refine XS.lloadN X0.here hx rfl (hb hby d4_0) rfl ?_
    refine XS.lstoreN X0.here hx rfl (hb hby d4_1) rfl (l' := #[.val (.long q0), .second, .val (.long q0), .second]) rfl ?_
    refine XS.lloadN X0.here hx rfl (hb hby d4_2) rfl ?_
    refine XS.lloadN X0.here hx rfl (hb hby d4_3) rfl ?_
    show Steps p.tables e below (s₁.setTop (mkF m 4 #[.val (.long q0), .second, .val (.long q0), .second] [(.long q0), (.long q0)])) t
    refine XS.bipush X0.here hx rfl (hb hby d4_4) ?_
    refine XS.lushr X0.here hx rfl (hb hby d4_6) rfl ?_
    refine XS.lxor X0.here hx rfl (hb hby d4_7) rfl ?_
    refine XS.lloadN X0.here hx rfl (hb hby d4_8) rfl ?_
    show Steps p.tables e below (s₁.setTop (mkF m 9 #[.val (.long q0), .second, .val (.long q0), .second] [(.long q0), (.long (q0 ^^^ (own_sh q0 31)))])) t
    refine XS.bipush X0.here hx rfl (hb hby d4_9) ?_
    refine XS.lushr X0.here hx rfl (hb hby d4_11) rfl ?_
    refine XS.lxor X0.here hx rfl (hb hby d4_12) rfl ?_
    refine XS.lstoreN X0.here hx rfl (hb hby d4_13) rfl (l' := #[.val (.long q0), .second, .val (.long (own_y q0 31 62)), .second]) rfl ?_
    show Steps p.tables e below (s₁.setTop (mkF m 14 #[.val (.long q0), .second, .val (.long (own_y q0 31 62)), .second] [])) t
    refine XS.lloadN X0.here hx rfl (hb hby d4_14) rfl ?_
    refine X0.ldc2J hx hown (mvT hZ (hw _ (List.mem_of_getElem? (i := 24) rfl))) rfl (hb hby d4_15) ?_
    exact k
  obtain ⟨_, _, ⟨T1, L1, k1, n1⟩, -, X1, ⟨Lc1, hQ1, l1, y1, z1⟩, st1⟩ := Jvm.LawKit.callS X0 hx (y := (⟨"com/example/nimble_trace/nimbletrace/SeededRandomNextLongPinLaw", "inverseOdd", "(J)J"⟩ : MethodName)) hown (mvT hZ (hw _ (List.mem_of_getElem? (i := 25) rfl))) (mvT hZ (hw _ (List.mem_of_getElem? (i := 26) rfl))) (mvT hZ (hw _ (List.mem_of_getElem? (i := 22) rfl))) (mvT hZ (hw _ (List.mem_of_getElem? (i := 27) rfl))) (by decide) (backOf (W := 2) (rm3 l Z a0 hw [] (-7723592293110705685 : Int64)  h0 n0 Z0 ) hZ (hw _ (List.mem_of_getElem? (i := 27) rfl)) (hw _ (List.mem_of_getElem? (i := 22) rfl)) (by decide) (by decide)) (g := (mkF m 18 #[.val (.long q0), .second, .val (.long (own_y q0 31 62)), .second] [(.long (-7723592293110705685 : Int64)), (.long (own_y q0 31 62))])) rfl (by rw [hml]; rfl) (argsL := [(.long (-7723592293110705685 : Int64))]) (rest := [(.long (own_y q0 31 62))]) (lenOf pd4_0 rfl) rfl (by show 2 * 0 + _ ≤ _; exact Nat.le_of_eq rfl) (hb hby d4_18) (fun _ _ => ⟨rfl, e0, (by decide : 0 + 0 ≤ _), (by decide : 0 + 0 ≤ _)⟩)
  dsimp only [Pt.U, Pt.locs, Pt.cells, Pt.slots] at X1 l1 y1 z1 st1 hQ1
  subst l1 y1 z1
  obtain ⟨rfl, N1q, e1⟩ := hQ1
  have N1 := Fr.app N0 N1q
  refine own_go (st1) ?_
  show own_Fin p.tables e below (T1.setTop (mkF m 21 #[.val (.long q0), .second, .val (.long (own_y q0 31 62)), .second] [(.long (own_inv (-7723592293110705685 : Int64))), (.long (own_y q0 31 62))])) _
  refine own_go (B := T1.setTop (mkF m 39 #[.val (.long q0), .second, .val (.long (own_y ((own_y q0 31 62) * (own_inv (-7723592293110705685 : Int64))) 27 54)), .second] [(.long (-4658895280553007687 : Int64)), (.long (own_y ((own_y q0 31 62) * (own_inv (-7723592293110705685 : Int64))) 27 54))])) (fun t k => ?_) ?_
  · show Steps p.tables e below (T1.setTop (mkF m 21 #[.val (.long q0), .second, .val (.long (own_y q0 31 62)), .second] [(.long (own_inv (-7723592293110705685 : Int64))), (.long (own_y q0 31 62))])) t
    refine XS.lmul X1.here hx rfl (hb hby d4_21) rfl ?_
    refine XS.lstoreN X1.here hx rfl (hb hby d4_22) rfl (l' := #[.val (.long q0), .second, .val (.long ((own_y q0 31 62) * (own_inv (-7723592293110705685 : Int64)))), .second]) rfl ?_
    refine XS.lloadN X1.here hx rfl (hb hby d4_23) rfl ?_
    refine XS.lloadN X1.here hx rfl (hb hby d4_24) rfl ?_
    show Steps p.tables e below (T1.setTop (mkF m 25 #[.val (.long q0), .second, .val (.long ((own_y q0 31 62) * (own_inv (-7723592293110705685 : Int64)))), .second] [(.long ((own_y q0 31 62) * (own_inv (-7723592293110705685 : Int64)))), (.long ((own_y q0 31 62) * (own_inv (-7723592293110705685 : Int64))))])) t
    refine XS.bipush X1.here hx rfl (hb hby d4_25) ?_
    refine XS.lushr X1.here hx rfl (hb hby d4_27) rfl ?_
    refine XS.lxor X1.here hx rfl (hb hby d4_28) rfl ?_
    refine XS.lloadN X1.here hx rfl (hb hby d4_29) rfl ?_
    show Steps p.tables e below (T1.setTop (mkF m 30 #[.val (.long q0), .second, .val (.long ((own_y q0 31 62) * (own_inv (-7723592293110705685 : Int64)))), .second] [(.long ((own_y q0 31 62) * (own_inv (-7723592293110705685 : Int64)))), (.long (((own_y q0 31 62) * (own_inv (-7723592293110705685 : Int64))) ^^^ (own_sh ((own_y q0 31 62) * (own_inv (-7723592293110705685 : Int64))) 27)))])) t
    refine XS.bipush X1.here hx rfl (hb hby d4_30) ?_
    refine XS.lushr X1.here hx rfl (hb hby d4_32) rfl ?_
    refine XS.lxor X1.here hx rfl (hb hby d4_33) rfl ?_
    refine XS.lstoreN X1.here hx rfl (hb hby d4_34) rfl (l' := #[.val (.long q0), .second, .val (.long (own_y ((own_y q0 31 62) * (own_inv (-7723592293110705685 : Int64))) 27 54)), .second]) rfl ?_
    show Steps p.tables e below (T1.setTop (mkF m 35 #[.val (.long q0), .second, .val (.long (own_y ((own_y q0 31 62) * (own_inv (-7723592293110705685 : Int64))) 27 54)), .second] [])) t
    refine XS.lloadN X1.here hx rfl (hb hby d4_35) rfl ?_
    refine X1.ldc2J hx hown (mvT hZ (hw _ (List.mem_of_getElem? (i := 29) rfl))) rfl (hb hby d4_36) ?_
    exact k
  obtain ⟨_, _, ⟨T2, L2, k2, n2⟩, -, X2, ⟨Lc2, hQ2, l2, y2, z2⟩, st2⟩ := Jvm.LawKit.callS X1 hx (y := (⟨"com/example/nimble_trace/nimbletrace/SeededRandomNextLongPinLaw", "inverseOdd", "(J)J"⟩ : MethodName)) hown (mvT hZ (hw _ (List.mem_of_getElem? (i := 25) rfl))) (mvT hZ (hw _ (List.mem_of_getElem? (i := 26) rfl))) (mvT hZ (hw _ (List.mem_of_getElem? (i := 22) rfl))) (mvT hZ (hw _ (List.mem_of_getElem? (i := 27) rfl))) (by decide) (backOf (W := 2) (rm3 l Z a0 hw [] (-4658895280553007687 : Int64)  h0 n0 Z0 ) hZ (hw _ (List.mem_of_getElem? (i := 27) rfl)) (hw _ (List.mem_of_getElem? (i := 22) rfl)) (by decide) (by decide)) (g := (mkF m 39 #[.val (.long q0), .second, .val (.long (own_y ((own_y q0 31 62) * (own_inv (-7723592293110705685 : Int64))) 27 54)), .second] [(.long (-4658895280553007687 : Int64)), (.long (own_y ((own_y q0 31 62) * (own_inv (-7723592293110705685 : Int64))) 27 54))])) rfl (by rw [hml]; rfl) (argsL := [(.long (-4658895280553007687 : Int64))]) (rest := [(.long (own_y ((own_y q0 31 62) * (own_inv (-7723592293110705685 : Int64))) 27 54))]) (lenOf pd4_0 rfl) rfl (by show 2 * 0 + _ ≤ _; exact Nat.le_of_eq rfl) (hb hby d4_39) (fun _ _ => ⟨rfl, e1, (by decide : 0 + 0 ≤ _), (by decide : 0 + 0 ≤ _)⟩)
  dsimp only [Pt.U, Pt.locs, Pt.cells, Pt.slots] at X2 l2 y2 z2 st2 hQ2
  subst l2 y2 z2
  obtain ⟨rfl, N2q, e2⟩ := hQ2
  have N2 := Fr.app N1 N2q
  refine own_go (st2) ?_
  show own_Fin p.tables e below (T2.setTop (mkF m 42 #[.val (.long q0), .second, .val (.long (own_y ((own_y q0 31 62) * (own_inv (-7723592293110705685 : Int64))) 27 54)), .second] [(.long (own_inv (-4658895280553007687 : Int64))), (.long (own_y ((own_y q0 31 62) * (own_inv (-7723592293110705685 : Int64))) 27 54))])) _
  refine own_go (B := T2.setTop (mkF m 57 #[.val (.long q0), .second, .val (.long (own_unmix q0)), .second] [(.long (own_unmix q0))])) (fun t k => ?_) ?_
  · show Steps p.tables e below (T2.setTop (mkF m 42 #[.val (.long q0), .second, .val (.long (own_y ((own_y q0 31 62) * (own_inv (-7723592293110705685 : Int64))) 27 54)), .second] [(.long (own_inv (-4658895280553007687 : Int64))), (.long (own_y ((own_y q0 31 62) * (own_inv (-7723592293110705685 : Int64))) 27 54))])) t
    refine XS.lmul X2.here hx rfl (hb hby d4_42) rfl ?_
    refine XS.lstoreN X2.here hx rfl (hb hby d4_43) rfl (l' := #[.val (.long q0), .second, .val (.long ((own_y ((own_y q0 31 62) * (own_inv (-7723592293110705685 : Int64))) 27 54) * (own_inv (-4658895280553007687 : Int64)))), .second]) rfl ?_
    refine XS.lloadN X2.here hx rfl (hb hby d4_44) rfl ?_
    refine XS.lloadN X2.here hx rfl (hb hby d4_45) rfl ?_
    show Steps p.tables e below (T2.setTop (mkF m 46 #[.val (.long q0), .second, .val (.long ((own_y ((own_y q0 31 62) * (own_inv (-7723592293110705685 : Int64))) 27 54) * (own_inv (-4658895280553007687 : Int64)))), .second] [(.long ((own_y ((own_y q0 31 62) * (own_inv (-7723592293110705685 : Int64))) 27 54) * (own_inv (-4658895280553007687 : Int64)))), (.long ((own_y ((own_y q0 31 62) * (own_inv (-7723592293110705685 : Int64))) 27 54) * (own_inv (-4658895280553007687 : Int64))))])) t
    refine XS.bipush X2.here hx rfl (hb hby d4_46) ?_
    refine XS.lushr X2.here hx rfl (hb hby d4_48) rfl ?_
    refine XS.lxor X2.here hx rfl (hb hby d4_49) rfl ?_
    refine XS.lloadN X2.here hx rfl (hb hby d4_50) rfl ?_
    show Steps p.tables e below (T2.setTop (mkF m 51 #[.val (.long q0), .second, .val (.long ((own_y ((own_y q0 31 62) * (own_inv (-7723592293110705685 : Int64))) 27 54) * (own_inv (-4658895280553007687 : Int64)))), .second] [(.long ((own_y ((own_y q0 31 62) * (own_inv (-7723592293110705685 : Int64))) 27 54) * (own_inv (-4658895280553007687 : Int64)))), (.long (((own_y ((own_y q0 31 62) * (own_inv (-7723592293110705685 : Int64))) 27 54) * (own_inv (-4658895280553007687 : Int64))) ^^^ (own_sh ((own_y ((own_y q0 31 62) * (own_inv (-7723592293110705685 : Int64))) 27 54) * (own_inv (-4658895280553007687 : Int64))) 30)))])) t
    refine XS.bipush X2.here hx rfl (hb hby d4_51) ?_
    refine XS.lushr X2.here hx rfl (hb hby d4_53) rfl ?_
    refine XS.lxor X2.here hx rfl (hb hby d4_54) rfl ?_
    refine XS.lstoreN X2.here hx rfl (hb hby d4_55) rfl (l' := #[.val (.long q0), .second, .val (.long (own_unmix q0)), .second]) rfl ?_
    show Steps p.tables e below (T2.setTop (mkF m 56 #[.val (.long q0), .second, .val (.long (own_unmix q0)), .second] [])) t
    refine XS.lloadN X2.here hx rfl (hb hby d4_56) rfl ?_
    exact k
  obtain ⟨fs, hr, hrun, hended, hW, hsame⟩ := X2.leave (v := some (.long (own_unmix q0))) (fun h => by rw [Bd.returns] at h; cases h)
  refine ⟨_, _, ?_, hrun, hended, _, _, rfl, ?_, ⟨_, rfl⟩, hW, hsame.mono (by decide) (by decide)⟩
  · exact retOut X2 hx (t := .long) Bd.returns rfl (Or.inr (Or.inl ⟨rfl, rfl, _, rfl⟩)) (hb hby d4_57) hr
  · show Q4 Z q0 h0 n0 _ T2.heap _
    rw [e2]
    exact ⟨rfl, N2, rfl⟩
theorem pn0 : plainName "com/example/nimble_trace/nimbletrace/SeededRandomNextLongPinLaw" = true := by first | (simp [plainName, overriddenIn]; done) | decide +kernel
theorem pd0_0 : parseMethodDescriptor "(J)V" = some ⟨[.long], none⟩ := by decide +kernel
theorem pd0_1 : parseMethodDescriptor "()J" = some ⟨[], some .long⟩ := by decide +kernel
theorem pd0_2 : parseMethodDescriptor "(J)J" = some ⟨[.long], some .long⟩ := by decide +kernel
theorem ef0 (m : MethodId) (q0 : Int64) : entryFrame m #[(.long q0)] maxLocals = mkF m 0 #[.val (.long q0), .second, .unset, .unset, .unset, .unset, .unset, .unset, .unset, .unset, .unset] [] := by first | (simp [entryFrame, mkF, argsToLocals, Value.category, maxLocals]; done) | rfl
def Q0 (Z : State) (q0 : Int64) (h0 : Heap) (n0 : Nat) (v : Option Value) (h : Heap) (L : List Loc) : Prop := v = some (.int 1) ∧ Fr n0 L
set_option maxRecDepth 65536 in
set_option maxHeartbeats 40000000 in
theorem rm0 (l : Launch) (Z : State) (a0 : Array Value) (hw : ∀ d ∈ tables_1, d.before a0 Z = true) (ws : List Jvm.Cond) (q0 : Int64) (h0 : Heap) (n0 : Nat) (Z0 : n0 ≤ h0.size) :
    MetFree l x (head1 (Jvm.Cond.code x code maxLocals ret :: ws) room_1) (fun a U => a = #[(.long q0)] ∧ Z.Warmed39 U.vm ∧ U.heap = h0) (fun _ _ _ _ _ => True) (fun _ U o U' => ∃ v L, o = .returned v ∧ Q0 Z q0 h0 n0 v U'.heap L ∧ FrameEnd U o U' L room_1.cells room_1.slots) := by
  refine MetFree.of_bodySF (plainFor_of_name pn0) hisR ?_
  intro p e s m args below meth c s₁ Bd hml0 hP hK
  obtain ⟨rfl, hZ, hh⟩ := hP
  have hx := Bd.exec
  have hby := Bd.bytes
  have hml : c.maxLocals = 11 := hml0
  have hown : s.vm.findClass "com/example/nimble_trace/nimbletrace/SeededRandomNextLongPinLaw" = some m.cls := findClass_of_methodNamed Bd.named
  have hnm := (name_of_methodNamed Bd.named Bd.method).1
  have X0 : Stand p l e room_1 s m #[(.long q0)] below meth c s₁ [] 0 0 := Stand.of_body Bd
  have e0 : s₁.heap = h0 := by rw [← hh, Bd.state]; rfl
  have N0 := Fr.nil n0
  have K0 : Keep h0 h0 [] := Keep.refl h0 _
  refine own_in ?_
  refine own_go (B := s₁.setTop (mkF m 0 #[.val (.long q0), .second, .unset, .unset, .unset, .unset, .unset, .unset, .unset, .unset, .unset] [])) (fun t k => castTop (ef0 m q0) k) ?_
  refine own_go (B := s₁.setTop (mkF m 4 #[.val (.long q0), .second, .val (.long (-7046029254386353131 : Int64)), .second, .unset, .unset, .unset, .unset, .unset, .unset, .unset] [])) (fun t k => ?_) ?_
  · show Steps p.tables e below (s₁.setTop (mkF m 0 #[.val (.long q0), .second, .unset, .unset, .unset, .unset, .unset, .unset, .unset, .unset, .unset] [])) t
    refine X0.ldc2J hx hown (mvT hZ (hw _ (List.mem_of_getElem? (i := 0) rfl))) rfl (hb hby at_0) ?_
    refine XS.lstoreN X0.here hx rfl (hb hby at_3) rfl (l' := #[.val (.long q0), .second, .val (.long (-7046029254386353131 : Int64)), .second, .unset, .unset, .unset, .unset, .unset, .unset, .unset]) rfl ?_
    exact k
  obtain ⟨T1, h1, X1, e1, E1, A1, D1, -, st1⟩ := newO X0 hx hZ hown (hw _ (List.mem_of_getElem? (i := 1) rfl)) (hw _ (List.mem_of_getElem? (i := 2) rfl)) (hw _ (List.mem_of_getElem? (i := 3) rfl)) e0 (g := (mkF m 4 #[.val (.long q0), .second, .val (.long (-7046029254386353131 : Int64)), .second, .unset, .unset, .unset, .unset, .unset, .unset, .unset] [])) rfl (hb hby at_4) (by decide) (by decide)
  obtain ⟨b1, g1⟩ : ∃ z, z = h0.size := ⟨_, rfl⟩
  rw [← g1] at A1 D1 st1
  have g_b1 : n0 ≤ b1 := by rw [g1]; exact Z0
  have sz_b1 : h0.size ≤ b1 := by rw [g1]; exact K0.1
  have K1 : Keep h0 h1 [] := K0.ext E1
  have F_state_b1 : Fld Z h1 b1 "com/example/nimble_trace/nimbletrace/SeededRandom" "state" "J" (.long (0 : Int64)) := D1 (Or.inl (hw _ (List.mem_of_getElem? (i := 11) rfl))) (ty := .long) (by decide)
  refine own_go st1 ?_
  show own_Fin p.tables e below (T1.setTop (mkF m 7 #[.val (.long q0), .second, .val (.long (-7046029254386353131 : Int64)), .second, .unset, .unset, .unset, .unset, .unset, .unset, .unset] [(.ref b1)])) _
  refine own_go (B := T1.setTop (mkF m 9 #[.val (.long q0), .second, .val (.long (-7046029254386353131 : Int64)), .second, .unset, .unset, .unset, .unset, .unset, .unset, .unset] [(.long q0), (.ref b1), (.ref b1)])) (fun t k => ?_) ?_
  · show Steps p.tables e below (T1.setTop (mkF m 7 #[.val (.long q0), .second, .val (.long (-7046029254386353131 : Int64)), .second, .unset, .unset, .unset, .unset, .unset, .unset, .unset] [(.ref b1)])) t
    refine XS.dup X1.here hx rfl (hb hby at_7) rfl rfl ?_
    refine XS.lloadN X1.here hx rfl (hb hby at_8) rfl ?_
    exact k
  obtain ⟨_, _, ⟨T2, L2, k2, n2⟩, -, X2, ⟨Lc2, hQ2, l2, y2, z2⟩, st2⟩ := X1.specialBack hx (y := (⟨"com/example/nimble_trace/nimbletrace/SeededRandom", "<init>", "(J)V"⟩ : MethodName)) rfl hown (mvT hZ (hw _ (List.mem_of_getElem? (i := 4) rfl))) (mvT hZ (hw _ (List.mem_of_getElem? (i := 5) rfl))) (mvT hZ (hw _ (List.mem_of_getElem? (i := 6) rfl))) (by decide) (backOf (W := 1) (rm1 l Z a0 hw [] b1 q0  h1 n0 (Nat.le_trans Z0 K1.1) A1 g_b1 F_state_b1) hZ (hw _ (List.mem_of_getElem? (i := 6) rfl)) (hw _ (List.mem_of_getElem? (i := 3) rfl)) (by decide) (by decide)) (g := (mkF m 9 #[.val (.long q0), .second, .val (.long (-7046029254386353131 : Int64)), .second, .unset, .unset, .unset, .unset, .unset, .unset, .unset] [(.long q0), (.ref b1), (.ref b1)])) rfl (by rw [hml]; rfl) (Steps.refl _) (a := b1) (argsL := [(.long q0)]) (rest := [(.ref b1)]) (lenOf pd0_0 rfl) rfl (by show 2 * 0 + _ ≤ _; exact Nat.le_of_eq rfl) (hb hby at_9) (fun _ _ => ⟨rfl, e1, (by decide : 1 + 0 ≤ _), (by decide : 1 + 0 ≤ _)⟩)
  dsimp only [Pt.U, Pt.locs, Pt.cells, Pt.slots] at X2 l2 y2 z2 st2 hQ2
  subst l2 y2 z2
  obtain ⟨rfl, N2q, Kq2, f2_0, f2_1⟩ := hQ2
  have N2 := Fr.app N0 N2q
  have K2 : Keep h0 T2.heap [] := K1.trans Kq2 (allS (Or.inr sz_b1) all0)
  refine own_go (fun _ k => st2.trans k) ?_
  show own_Fin p.tables e below (T2.setTop (mkF m 12 #[.val (.long q0), .second, .val (.long (-7046029254386353131 : Int64)), .second, .unset, .unset, .unset, .unset, .unset, .unset, .unset] [(.ref b1)])) _
  refine own_go (B := T2.setTop (mkF m 16 #[.val (.long q0), .second, .val (.long (-7046029254386353131 : Int64)), .second, .val (.ref b1), .unset, .unset, .unset, .unset, .unset, .unset] [(.ref b1)])) (fun t k => ?_) ?_
  · show Steps p.tables e below (T2.setTop (mkF m 12 #[.val (.long q0), .second, .val (.long (-7046029254386353131 : Int64)), .second, .unset, .unset, .unset, .unset, .unset, .unset, .unset] [(.ref b1)])) t
    refine XS.astore X2.here hx rfl (hb hby at_12) rfl rfl (l' := #[.val (.long q0), .second, .val (.long (-7046029254386353131 : Int64)), .second, .val (.ref b1), .unset, .unset, .unset, .unset, .unset, .unset]) rfl ?_
    refine XS.aload X2.here hx rfl (hb hby at_14) rfl rfl ?_
    exact k
  obtain ⟨cq3, kq3, q3a, q3b, q3c⟩ := isOf hZ rfl f2_0
  obtain ⟨_, _, ⟨T3, L3, k3, n3⟩, -, X3, ⟨Lc3, hQ3, l3, y3, z3⟩, st3⟩ := X2.virtualBack hx (y := (⟨"com/example/nimble_trace/nimbletrace/SeededRandom", "nextLong", "()J"⟩ : MethodName)) (z := (⟨"com/example/nimble_trace/nimbletrace/SeededRandom", "nextLong", "()J"⟩ : MethodName)) hown (mvT hZ (hw _ (List.mem_of_getElem? (i := 12) rfl))) (mvT hZ (hw _ (List.mem_of_getElem? (i := 13) rfl))) (notFace_of_selects (args := #[]) (mvT hZ (hw _ (List.mem_of_getElem? (i := 15) rfl)))) (mvT hZ (hw _ (List.mem_of_getElem? (i := 15) rfl))) (mvT hZ (hw _ (List.mem_of_getElem? (i := 14) rfl))) (by decide) (backOf (W := 0) (rm2 l Z a0 hw [] b1 q0 T2.heap n0 (Nat.le_trans Z0 K2.1) f2_0 g_b1 f2_1) hZ (hw _ (List.mem_of_getElem? (i := 16) rfl)) (hw _ (List.mem_of_getElem? (i := 3) rfl)) (by decide) (by decide)) q3a q3c (g := (mkF m 16 #[.val (.long q0), .second, .val (.long (-7046029254386353131 : Int64)), .second, .val (.ref b1), .unset, .unset, .unset, .unset, .unset, .unset] [(.ref b1)])) rfl (by rw [hml]; rfl) (Steps.refl _) (argsL := []) (rest := []) (lenOf pd0_1 rfl) rfl (by show 2 * 0 + _ ≤ _; exact Nat.le_of_eq rfl) (hb hby at_16) (fun _ _ => ⟨rfl, rfl, (by decide : 1 + 0 ≤ _), (by decide : 1 + 0 ≤ _)⟩)
  dsimp only [Pt.U, Pt.locs, Pt.cells, Pt.slots] at X3 l3 y3 z3 st3 hQ3
  subst l3 y3 z3
  obtain ⟨rfl, N3q, Kq3, f3_0, f3_1⟩ := hQ3
  have N3 := Fr.app N2 N3q
  have K3 : Keep h0 T3.heap [] := K2.trans Kq3 (allS (Or.inr sz_b1) all0)
  refine own_go (fun _ k => st3.trans k) ?_
  show own_Fin p.tables e below (T3.setTop (mkF m 19 #[.val (.long q0), .second, .val (.long (-7046029254386353131 : Int64)), .second, .val (.ref b1), .unset, .unset, .unset, .unset, .unset, .unset] [(.long (own_mix (q0 + (-7046029254386353131 : Int64))))])) _
  refine own_go (B := T3.setTop (mkF m 23 #[.val (.long q0), .second, .val (.long (-7046029254386353131 : Int64)), .second, .val (.ref b1), .val (.long (own_mix (q0 + (-7046029254386353131 : Int64)))), .second, .unset, .unset, .unset, .unset] [(.ref b1)])) (fun t k => ?_) ?_
  · show Steps p.tables e below (T3.setTop (mkF m 19 #[.val (.long q0), .second, .val (.long (-7046029254386353131 : Int64)), .second, .val (.ref b1), .unset, .unset, .unset, .unset, .unset, .unset] [(.long (own_mix (q0 + (-7046029254386353131 : Int64))))])) t
    refine XS.lstore X3.here hx rfl (hb hby at_19) rfl (l' := #[.val (.long q0), .second, .val (.long (-7046029254386353131 : Int64)), .second, .val (.ref b1), .val (.long (own_mix (q0 + (-7046029254386353131 : Int64)))), .second, .unset, .unset, .unset, .unset]) rfl ?_
    refine XS.aload X3.here hx rfl (hb hby at_21) rfl rfl ?_
    exact k
  obtain ⟨cq4, kq4, q4a, q4b, q4c⟩ := isOf hZ rfl f3_0
  obtain ⟨_, _, ⟨T4, L4, k4, n4⟩, -, X4, ⟨Lc4, hQ4, l4, y4, z4⟩, st4⟩ := X3.virtualBack hx (y := (⟨"com/example/nimble_trace/nimbletrace/SeededRandom", "nextLong", "()J"⟩ : MethodName)) (z := (⟨"com/example/nimble_trace/nimbletrace/SeededRandom", "nextLong", "()J"⟩ : MethodName)) hown (mvT hZ (hw _ (List.mem_of_getElem? (i := 12) rfl))) (mvT hZ (hw _ (List.mem_of_getElem? (i := 13) rfl))) (notFace_of_selects (args := #[]) (mvT hZ (hw _ (List.mem_of_getElem? (i := 15) rfl)))) (mvT hZ (hw _ (List.mem_of_getElem? (i := 15) rfl))) (mvT hZ (hw _ (List.mem_of_getElem? (i := 14) rfl))) (by decide) (backOf (W := 0) (rm2 l Z a0 hw [] b1 (q0 + (-7046029254386353131 : Int64)) T3.heap n0 (Nat.le_trans Z0 K3.1) f3_0 g_b1 f3_1) hZ (hw _ (List.mem_of_getElem? (i := 16) rfl)) (hw _ (List.mem_of_getElem? (i := 3) rfl)) (by decide) (by decide)) q4a q4c (g := (mkF m 23 #[.val (.long q0), .second, .val (.long (-7046029254386353131 : Int64)), .second, .val (.ref b1), .val (.long (own_mix (q0 + (-7046029254386353131 : Int64)))), .second, .unset, .unset, .unset, .unset] [(.ref b1)])) rfl (by rw [hml]; rfl) (Steps.refl _) (argsL := []) (rest := []) (lenOf pd0_1 rfl) rfl (by show 2 * 0 + _ ≤ _; exact Nat.le_of_eq rfl) (hb hby at_23) (fun _ _ => ⟨rfl, rfl, (by decide : 1 + 0 ≤ _), (by decide : 1 + 0 ≤ _)⟩)
  dsimp only [Pt.U, Pt.locs, Pt.cells, Pt.slots] at X4 l4 y4 z4 st4 hQ4
  subst l4 y4 z4
  obtain ⟨rfl, N4q, Kq4, f4_0, f4_1⟩ := hQ4
  have N4 := Fr.app N3 N4q
  have K4 : Keep h0 T4.heap [] := K3.trans Kq4 (allS (Or.inr sz_b1) all0)
  refine own_go (fun _ k => st4.trans k) ?_
  show own_Fin p.tables e below (T4.setTop (mkF m 26 #[.val (.long q0), .second, .val (.long (-7046029254386353131 : Int64)), .second, .val (.ref b1), .val (.long (own_mix (q0 + (-7046029254386353131 : Int64)))), .second, .unset, .unset, .unset, .unset] [(.long (own_mix ((q0 + (-7046029254386353131 : Int64)) + (-7046029254386353131 : Int64))))])) _
  refine own_go (B := T4.setTop (mkF m 30 #[.val (.long q0), .second, .val (.long (-7046029254386353131 : Int64)), .second, .val (.ref b1), .val (.long (own_mix (q0 + (-7046029254386353131 : Int64)))), .second, .val (.long (own_mix ((q0 + (-7046029254386353131 : Int64)) + (-7046029254386353131 : Int64)))), .second, .unset, .unset] [(.long (own_mix (q0 + (-7046029254386353131 : Int64))))])) (fun t k => ?_) ?_
  · show Steps p.tables e below (T4.setTop (mkF m 26 #[.val (.long q0), .second, .val (.long (-7046029254386353131 : Int64)), .second, .val (.ref b1), .val (.long (own_mix (q0 + (-7046029254386353131 : Int64)))), .second, .unset, .unset, .unset, .unset] [(.long (own_mix ((q0 + (-7046029254386353131 : Int64)) + (-7046029254386353131 : Int64))))])) t
    refine XS.lstore X4.here hx rfl (hb hby at_26) rfl (l' := #[.val (.long q0), .second, .val (.long (-7046029254386353131 : Int64)), .second, .val (.ref b1), .val (.long (own_mix (q0 + (-7046029254386353131 : Int64)))), .second, .val (.long (own_mix ((q0 + (-7046029254386353131 : Int64)) + (-7046029254386353131 : Int64)))), .second, .unset, .unset]) rfl ?_
    refine XS.lload X4.here hx rfl (hb hby at_28) rfl ?_
    exact k
  obtain ⟨_, _, ⟨T5, L5, k5, n5⟩, -, X5, ⟨Lc5, hQ5, l5, y5, z5⟩, st5⟩ := Jvm.LawKit.callS X4 hx (y := (⟨"com/example/nimble_trace/nimbletrace/SeededRandomNextLongPinLaw", "unmix", "(J)J"⟩ : MethodName)) hown (mvT hZ (hw _ (List.mem_of_getElem? (i := 20) rfl))) (mvT hZ (hw _ (List.mem_of_getElem? (i := 21) rfl))) (mvT hZ (hw _ (List.mem_of_getElem? (i := 22) rfl))) (mvT hZ (hw _ (List.mem_of_getElem? (i := 23) rfl))) (by decide) (backOf (W := 0) (rm4 l Z a0 hw [] (own_mix (q0 + (-7046029254386353131 : Int64)))  T4.heap n0 (Nat.le_trans Z0 K4.1) ) hZ (hw _ (List.mem_of_getElem? (i := 23) rfl)) (hw _ (List.mem_of_getElem? (i := 22) rfl)) (by decide) (by decide)) (g := (mkF m 30 #[.val (.long q0), .second, .val (.long (-7046029254386353131 : Int64)), .second, .val (.ref b1), .val (.long (own_mix (q0 + (-7046029254386353131 : Int64)))), .second, .val (.long (own_mix ((q0 + (-7046029254386353131 : Int64)) + (-7046029254386353131 : Int64)))), .second, .unset, .unset] [(.long (own_mix (q0 + (-7046029254386353131 : Int64))))])) rfl (by rw [hml]; rfl) (argsL := [(.long (own_mix (q0 + (-7046029254386353131 : Int64))))]) (rest := []) (lenOf pd0_2 rfl) rfl (by show 2 * 0 + _ ≤ _; exact Nat.le_of_eq rfl) (hb hby at_30) (fun _ _ => ⟨rfl, rfl, (by decide : 1 + 0 ≤ _), (by decide : 1 + 0 ≤ _)⟩)
  dsimp only [Pt.U, Pt.locs, Pt.cells, Pt.slots] at X5 l5 y5 z5 st5 hQ5
  subst l5 y5 z5
  obtain ⟨rfl, N5q, e5⟩ := hQ5
  have N5 := Fr.app N4 N5q
  refine own_go (st5) ?_
  show own_Fin p.tables e below (T5.setTop (mkF m 33 #[.val (.long q0), .second, .val (.long (-7046029254386353131 : Int64)), .second, .val (.ref b1), .val (.long (own_mix (q0 + (-7046029254386353131 : Int64)))), .second, .val (.long (own_mix ((q0 + (-7046029254386353131 : Int64)) + (-7046029254386353131 : Int64)))), .second, .unset, .unset] [(.long (own_unmix (own_mix (q0 + (-7046029254386353131 : Int64)))))])) _
  refine own_go (B := T5.setTop (mkF m 37 #[.val (.long q0), .second, .val (.long (-7046029254386353131 : Int64)), .second, .val (.ref b1), .val (.long (own_mix (q0 + (-7046029254386353131 : Int64)))), .second, .val (.long (own_mix ((q0 + (-7046029254386353131 : Int64)) + (-7046029254386353131 : Int64)))), .second, .unset, .unset] [(.int (lcmpW (own_unmix (own_mix (q0 + (-7046029254386353131 : Int64)))) (q0 + (-7046029254386353131 : Int64))))])) (fun t k => ?_) ?_
  · show Steps p.tables e below (T5.setTop (mkF m 33 #[.val (.long q0), .second, .val (.long (-7046029254386353131 : Int64)), .second, .val (.ref b1), .val (.long (own_mix (q0 + (-7046029254386353131 : Int64)))), .second, .val (.long (own_mix ((q0 + (-7046029254386353131 : Int64)) + (-7046029254386353131 : Int64)))), .second, .unset, .unset] [(.long (own_unmix (own_mix (q0 + (-7046029254386353131 : Int64)))))])) t
    refine XS.lloadN X5.here hx rfl (hb hby at_33) rfl ?_
    refine XS.lloadN X5.here hx rfl (hb hby at_34) rfl ?_
    refine XS.ladd X5.here hx rfl (hb hby at_35) rfl ?_
    refine XS.lcmp X5.here hx rfl (hb hby at_36) rfl ?_
    exact k
  have hc6 : (own_unmix (own_mix (q0 + (-7046029254386353131 : Int64)))) = (q0 + (-7046029254386353131 : Int64)) := own_law _
  refine own_go (B := T5.setTop (mkF m 49 #[.val (.long q0), .second, .val (.long (-7046029254386353131 : Int64)), .second, .val (.ref b1), .val (.long (own_mix (q0 + (-7046029254386353131 : Int64)))), .second, .val (.long (own_mix ((q0 + (-7046029254386353131 : Int64)) + (-7046029254386353131 : Int64)))), .second, .val (.int (1 : Int32)), .unset] [(.long (own_mix ((q0 + (-7046029254386353131 : Int64)) + (-7046029254386353131 : Int64))))])) (fun t k => ?_) ?_
  · show Steps p.tables e below (T5.setTop (mkF m 37 #[.val (.long q0), .second, .val (.long (-7046029254386353131 : Int64)), .second, .val (.ref b1), .val (.long (own_mix (q0 + (-7046029254386353131 : Int64)))), .second, .val (.long (own_mix ((q0 + (-7046029254386353131 : Int64)) + (-7046029254386353131 : Int64)))), .second, .unset, .unset] [(.int (lcmpW (own_unmix (own_mix (q0 + (-7046029254386353131 : Int64)))) (q0 + (-7046029254386353131 : Int64))))])) t
    refine XS.ifNo X5.here hx rfl (hb hby at_37) rfl ((if0 _ _).trans (teq ((lw_eq _ _).mpr hc6)).2) ?_
    refine XS.iconst X5.here hx rfl (hb hby at_40) ?_
    refine XS.goto X5.here hx rfl (pc0 := 41) (pc' := 45) rfl (hb hby at_41) (by decide) (by decide) ?_
    refine XS.istore X5.here hx rfl (hb hby at_45) rfl (l' := #[.val (.long q0), .second, .val (.long (-7046029254386353131 : Int64)), .second, .val (.ref b1), .val (.long (own_mix (q0 + (-7046029254386353131 : Int64)))), .second, .val (.long (own_mix ((q0 + (-7046029254386353131 : Int64)) + (-7046029254386353131 : Int64)))), .second, .val (.int (1 : Int32)), .unset]) rfl ?_
    show Steps p.tables e below (T5.setTop (mkF m 47 #[.val (.long q0), .second, .val (.long (-7046029254386353131 : Int64)), .second, .val (.ref b1), .val (.long (own_mix (q0 + (-7046029254386353131 : Int64)))), .second, .val (.long (own_mix ((q0 + (-7046029254386353131 : Int64)) + (-7046029254386353131 : Int64)))), .second, .val (.int (1 : Int32)), .unset] [])) t
    refine XS.lload X5.here hx rfl (hb hby at_47) rfl ?_
    exact k
  obtain ⟨_, _, ⟨T7, L7, k7, n7⟩, -, X7, ⟨Lc7, hQ7, l7, y7, z7⟩, st7⟩ := Jvm.LawKit.callS X5 hx (y := (⟨"com/example/nimble_trace/nimbletrace/SeededRandomNextLongPinLaw", "unmix", "(J)J"⟩ : MethodName)) hown (mvT hZ (hw _ (List.mem_of_getElem? (i := 20) rfl))) (mvT hZ (hw _ (List.mem_of_getElem? (i := 21) rfl))) (mvT hZ (hw _ (List.mem_of_getElem? (i := 22) rfl))) (mvT hZ (hw _ (List.mem_of_getElem? (i := 23) rfl))) (by decide) (backOf (W := 0) (rm4 l Z a0 hw [] (own_mix ((q0 + (-7046029254386353131 : Int64)) + (-7046029254386353131 : Int64)))  T4.heap n0 (Nat.le_trans Z0 K4.1) ) hZ (hw _ (List.mem_of_getElem? (i := 23) rfl)) (hw _ (List.mem_of_getElem? (i := 22) rfl)) (by decide) (by decide)) (g := (mkF m 49 #[.val (.long q0), .second, .val (.long (-7046029254386353131 : Int64)), .second, .val (.ref b1), .val (.long (own_mix (q0 + (-7046029254386353131 : Int64)))), .second, .val (.long (own_mix ((q0 + (-7046029254386353131 : Int64)) + (-7046029254386353131 : Int64)))), .second, .val (.int (1 : Int32)), .unset] [(.long (own_mix ((q0 + (-7046029254386353131 : Int64)) + (-7046029254386353131 : Int64))))])) rfl (by rw [hml]; rfl) (argsL := [(.long (own_mix ((q0 + (-7046029254386353131 : Int64)) + (-7046029254386353131 : Int64))))]) (rest := []) (lenOf pd0_2 rfl) rfl (by show 2 * 0 + _ ≤ _; exact Nat.le_of_eq rfl) (hb hby at_49) (fun _ _ => ⟨rfl, e5, (by decide : 1 + 0 ≤ _), (by decide : 1 + 0 ≤ _)⟩)
  dsimp only [Pt.U, Pt.locs, Pt.cells, Pt.slots] at X7 l7 y7 z7 st7 hQ7
  subst l7 y7 z7
  obtain ⟨rfl, N7q, e7⟩ := hQ7
  have N7 := Fr.app N5 N7q
  refine own_go (st7) ?_
  show own_Fin p.tables e below (T7.setTop (mkF m 52 #[.val (.long q0), .second, .val (.long (-7046029254386353131 : Int64)), .second, .val (.ref b1), .val (.long (own_mix (q0 + (-7046029254386353131 : Int64)))), .second, .val (.long (own_mix ((q0 + (-7046029254386353131 : Int64)) + (-7046029254386353131 : Int64)))), .second, .val (.int (1 : Int32)), .unset] [(.long (own_unmix (own_mix ((q0 + (-7046029254386353131 : Int64)) + (-7046029254386353131 : Int64)))))])) _
  refine own_go (B := T7.setTop (mkF m 58 #[.val (.long q0), .second, .val (.long (-7046029254386353131 : Int64)), .second, .val (.ref b1), .val (.long (own_mix (q0 + (-7046029254386353131 : Int64)))), .second, .val (.long (own_mix ((q0 + (-7046029254386353131 : Int64)) + (-7046029254386353131 : Int64)))), .second, .val (.int (1 : Int32)), .unset] [(.int (lcmpW (own_unmix (own_mix ((q0 + (-7046029254386353131 : Int64)) + (-7046029254386353131 : Int64)))) ((q0 + (-7046029254386353131 : Int64)) + (-7046029254386353131 : Int64))))])) (fun t k => ?_) ?_
  · show Steps p.tables e below (T7.setTop (mkF m 52 #[.val (.long q0), .second, .val (.long (-7046029254386353131 : Int64)), .second, .val (.ref b1), .val (.long (own_mix (q0 + (-7046029254386353131 : Int64)))), .second, .val (.long (own_mix ((q0 + (-7046029254386353131 : Int64)) + (-7046029254386353131 : Int64)))), .second, .val (.int (1 : Int32)), .unset] [(.long (own_unmix (own_mix ((q0 + (-7046029254386353131 : Int64)) + (-7046029254386353131 : Int64)))))])) t
    refine XS.lloadN X7.here hx rfl (hb hby at_52) rfl ?_
    refine XS.lloadN X7.here hx rfl (hb hby at_53) rfl ?_
    refine XS.ladd X7.here hx rfl (hb hby at_54) rfl ?_
    refine XS.lloadN X7.here hx rfl (hb hby at_55) rfl ?_
    show Steps p.tables e below (T7.setTop (mkF m 56 #[.val (.long q0), .second, .val (.long (-7046029254386353131 : Int64)), .second, .val (.ref b1), .val (.long (own_mix (q0 + (-7046029254386353131 : Int64)))), .second, .val (.long (own_mix ((q0 + (-7046029254386353131 : Int64)) + (-7046029254386353131 : Int64)))), .second, .val (.int (1 : Int32)), .unset] [(.long (-7046029254386353131 : Int64)), (.long (q0 + (-7046029254386353131 : Int64))), (.long (own_unmix (own_mix ((q0 + (-7046029254386353131 : Int64)) + (-7046029254386353131 : Int64)))))])) t
    refine XS.ladd X7.here hx rfl (hb hby at_56) rfl ?_
    refine XS.lcmp X7.here hx rfl (hb hby at_57) rfl ?_
    exact k
  have hc8 : (own_unmix (own_mix ((q0 + (-7046029254386353131 : Int64)) + (-7046029254386353131 : Int64)))) = ((q0 + (-7046029254386353131 : Int64)) + (-7046029254386353131 : Int64)) := own_law _
  refine own_go (B := T7.setTop (mkF m 83 #[.val (.long q0), .second, .val (.long (-7046029254386353131 : Int64)), .second, .val (.ref b1), .val (.long (own_mix (q0 + (-7046029254386353131 : Int64)))), .second, .val (.long (own_mix ((q0 + (-7046029254386353131 : Int64)) + (-7046029254386353131 : Int64)))), .second, .val (.int (1 : Int32)), .val (.int (1 : Int32))] [(.int (1 : Int32))])) (fun t k => ?_) ?_
  · show Steps p.tables e below (T7.setTop (mkF m 58 #[.val (.long q0), .second, .val (.long (-7046029254386353131 : Int64)), .second, .val (.ref b1), .val (.long (own_mix (q0 + (-7046029254386353131 : Int64)))), .second, .val (.long (own_mix ((q0 + (-7046029254386353131 : Int64)) + (-7046029254386353131 : Int64)))), .second, .val (.int (1 : Int32)), .unset] [(.int (lcmpW (own_unmix (own_mix ((q0 + (-7046029254386353131 : Int64)) + (-7046029254386353131 : Int64)))) ((q0 + (-7046029254386353131 : Int64)) + (-7046029254386353131 : Int64))))])) t
    refine XS.ifNo X7.here hx rfl (hb hby at_58) rfl ((if0 _ _).trans (teq ((lw_eq _ _).mpr hc8)).2) ?_
    refine XS.iconst X7.here hx rfl (hb hby at_61) ?_
    refine XS.goto X7.here hx rfl (pc0 := 62) (pc' := 66) rfl (hb hby at_62) (by decide) (by decide) ?_
    refine XS.istore X7.here hx rfl (hb hby at_66) rfl (l' := #[.val (.long q0), .second, .val (.long (-7046029254386353131 : Int64)), .second, .val (.ref b1), .val (.long (own_mix (q0 + (-7046029254386353131 : Int64)))), .second, .val (.long (own_mix ((q0 + (-7046029254386353131 : Int64)) + (-7046029254386353131 : Int64)))), .second, .val (.int (1 : Int32)), .val (.int (1 : Int32))]) rfl ?_
    show Steps p.tables e below (T7.setTop (mkF m 68 #[.val (.long q0), .second, .val (.long (-7046029254386353131 : Int64)), .second, .val (.ref b1), .val (.long (own_mix (q0 + (-7046029254386353131 : Int64)))), .second, .val (.long (own_mix ((q0 + (-7046029254386353131 : Int64)) + (-7046029254386353131 : Int64)))), .second, .val (.int (1 : Int32)), .val (.int (1 : Int32))] [])) t
    refine XS.iload X7.here hx rfl (hb hby at_68) rfl ?_
    refine XS.ifNo X7.here hx rfl (hb hby at_70) rfl ((if0 _ _).trans (feq (by decide : ¬ ((1 : Int32) = (0 : Int32)))).1) ?_
    refine XS.iload X7.here hx rfl (hb hby at_73) rfl ?_
    refine XS.ifNo X7.here hx rfl (hb hby at_75) rfl ((if0 _ _).trans (feq (by decide : ¬ ((1 : Int32) = (0 : Int32)))).1) ?_
    show Steps p.tables e below (T7.setTop (mkF m 78 #[.val (.long q0), .second, .val (.long (-7046029254386353131 : Int64)), .second, .val (.ref b1), .val (.long (own_mix (q0 + (-7046029254386353131 : Int64)))), .second, .val (.long (own_mix ((q0 + (-7046029254386353131 : Int64)) + (-7046029254386353131 : Int64)))), .second, .val (.int (1 : Int32)), .val (.int (1 : Int32))] [])) t
    refine XS.iconst X7.here hx rfl (hb hby at_78) ?_
    refine XS.goto X7.here hx rfl (pc0 := 79) (pc' := 83) rfl (hb hby at_79) (by decide) (by decide) ?_
    exact k
  obtain ⟨fs, hr, hrun, hended, hW, hsame⟩ := X7.leave (v := some (.int (1 : Int32))) (fun h => by rw [Bd.returns] at h; cases h)
  refine ⟨_, _, ?_, hrun, hended, _, _, rfl, ?_, ⟨_, rfl⟩, hW, hsame.mono (by decide) (by decide)⟩
  · exact retOut X7 hx (t := .boolean) Bd.returns rfl (Or.inl ⟨rfl, by simp, _, rfl⟩) (hb hby at_83) hr
  · show Q0 Z q0 h0 n0 _ T7.heap _
    rw [e7]
    exact ⟨rfl, N7⟩
set_option maxRecDepth 65536 in
set_option maxHeartbeats 40000000 in
theorem comes_1 {Post : Tables → Env → Array Value → State → Outcome → State → Prop} (hpost : ∀ tb e args s v u, (limb_1_1.after args s (.returned v) u = true ∧ limb_1_2.after args s (.returned v) u = true ∧ True) → FrameEnd s (.returned v) u (Jvm.fieldLocs frame_1_writes args s ++ Jvm.arrayLocs frame_1_arrays args s ++ Jvm.staticLocs frame_1_statics s) 16 128 → Post tb e args s (.returned v) u) :
    ArmFor flags0 classFile x code maxLocals ret World_1 tables_1 room_1 Calls_1 rest_1 Pre_1 Post := by
  intro l hfl _ _ p e ha hc hk s m args below hf hA hF happ hP
  obtain ⟨hcalls, hrest, hpre⟩ := hP
  obtain ⟨-, -, -, hnamed, -, -, -, hat⟩ := (Spec.applies_iff hf).mp happ
  obtain ⟨hg, hn⟩ := and_e (Cond.before_iff.mp (show (Jvm.Cond.and given_1 narrow_1).before args s = true from hpre))
  obtain ⟨hcnt, hv0⟩ := and_e hg
  have hk0 := hv0
  obtain ⟨w0, rfl⟩ : ∃ w0 : Value, args = #[w0] := by
    have hs : args.size = 1 := by simpa [Cond.value, given_1] using hcnt
    obtain ⟨L⟩ := args
    match L, hs with
    | [w0], _ => exact ⟨w0, rfl⟩
  have hw := fun d (hd : d ∈ tables_1) => atoms_spec (ws := Jvm.Cond.code x code maxLocals ret :: tables_1) hat d (List.mem_cons_of_mem _ hd)
  have hfit : Fit s := fun {y c} hc i hi => by
    obtain ⟨ha, rfl⟩ := Array.getElem?_eq_some_iff.mp hc
    have q := List.all_eq_true.mp ((Array.all_eq_true_iff_forall_mem.mp hF) _ (Array.getElem_mem ha)) i (List.mem_range.mpr hi)
    simpa [Array.getElem?_eq_getElem hi] using q
  obtain ⟨i0, ei0⟩ := isL_v hk0
  obtain rfl : w0 = (.long i0) := Option.some.inj ei0
  obtain ⟨n, o, h1, h2, h3, _, L, rfl, ⟨rfl, N⟩, hq⟩ := rm0 l s _ hw tables_1 i0  s.heap s.heap.size (Nat.le_refl _)  p e ha hc hk s m _ below hf ((Spec.applies_iff_loose hf).mp happ).1 ⟨rfl, State.Warmed39.refl s, rfl⟩ trivial
  refine ⟨n, _, h1, h2, h3, hpost _ _ _ _ _ _ ⟨Cond.after_iff.mpr rfl, Cond.after_iff.mpr (eq_i res_at (Term.int_eval (1)) rfl), trivial⟩ ⟨hq.1, hq.2.1, (hq.2.2.sift fun y hy => Or.inr (N y hy)).mono (by decide) (by decide)⟩⟩
theorem main_1_1 : Claimed_1_1 := comes_1 fun _ _ _ _ _ _ h hF => ⟨h.1, hF⟩
theorem main_1_2 : Claimed_1_2 := comes_1 fun _ _ _ _ _ _ h hF => ⟨h.2.1, hF⟩
end Jvm.Pilot.@@N@@
namespace Jvm.Pilot.@@N@@
open Jvm Jvm.ClassFile Sem Op Lib Jvm.Free Jvm.Stand Jvm.Pilot.@@N@@.Jvm.D
/-! MADE BY PROGRAM (witnessworld.py) out of the Statement's table words and the real class files: 9 classes; the members and pool entries that the words name. The judged class is class 1, her method 3. -/
namespace start1
open Jvm.ClassFile
def u (s : String) : CpInfo := .utf8 (stringToUtf16 s)
/-- a pool by its gaps: so many unusable entries, then the entry; so many at the end -/
def gap : Nat → List CpInfo → List CpInfo
  | 0, r => r
  | n + 1, r => .unusable :: gap n r
def poolList (es : List (Nat × CpInfo)) (last : Nat) : List CpInfo := es.foldr (fun e r => gap e.1 (e.2 :: r)) (gap last [])
def pool (es : List (Nat × CpInfo)) (last : Nat) : Array CpInfo := ⟨poolList es last⟩
def fileOf (pool : Array CpInfo) (this : Nat) (attrs : Array Attribute := #[]) (ms : Array MethodInfo := #[]) (fl : Nat := 33) (sup : Nat := 0) (ifs : Array Nat := #[]) (fds : Array FieldInfo := #[]) : ClassFile where
  minorVersion := 0
  majorVersion := 65
  constantPool := pool
  accessFlags := fl
  thisClass := this
  superClass := sup
  interfaces := ifs
  fields := fds
  methods := ms
  attributes := attrs
def plain (name : String) (sup : Option ClassId) : Class where
  name := name
  kind := .ordinary
  loader := none
  accessFlags := 33
  super := sup
  interfaces := #[]
  cf := none
  fields := #[]
  methods := #[]
  instanceTypes := #[]
  staticTypes := #[]
  resolved := #[]
  callSites := []
  init := .initialized
  statics := none
  mirror := none

def pool0 : Array CpInfo := pool [(5, u "<init>"), (0, u "()V"), (1, .class_ 10), (1, u "java/lang/Object")] 113

def k0c0 : Code := { maxStack := 0, maxLocals := 1, code := object_method_1_code, exceptionTable := #[], attributes := #[] }
def k0m0 : Method := { name := "<init>", desc := "()V", sig := { parameters := [], returnType := none }, accessFlags := 1, code := some k0c0 }
/-- java/lang/Object -/
def k0 : Class := { plain "java/lang/Object" none with
  accessFlags := 33
  interfaces := #[]
  cf := some (fileOf pool0 8 #[] #[{ accessFlags := 1, nameIndex := 5, descriptorIndex := 6, attributes := #[] }] 33 0 #[] #[])
  fields := #[]
  methods := #[k0m0]
  instanceTypes := #[]
  staticTypes := #[]
  resolved := Array.replicate 124 none
  statics := none }

def pool1 : Array CpInfo := pool [(2, .class_ 4), (1, u "java/lang/Object"), (0, u "<init>"), (0, u "()V"), (0, .long 2), (1, .long 10723151780598845931), (1, .methodref 12 13), (0, .class_ 14), (0, .nameAndType 15 16), (0, u "com/example/nimble_trace/nimbletrace/SeededRandomNextLongPinLaw"), (0, u "inverseOdd"), (0, u "(J)J"), (0, .long 13787848793156543929), (1, .long 11400714819323198485), (1, .class_ 22), (0, u "com/example/nimble_trace/nimbletrace/SeededRandom"), (0, .methodref 21 24), (0, .nameAndType 5 25), (0, u "(J)V"), (0, .methodref 21 27), (0, .nameAndType 28 29), (0, u "nextLong"), (0, u "()J"), (0, .methodref 12 31), (0, .nameAndType 32 16), (0, u "unmix"), (2, u "law"), (0, u "(J)Z")] 3

def k1m0 : Method := { name := "<init>", desc := "()V", sig := { parameters := [], returnType := none }, accessFlags := 1, code := none }
def k1c1 : Code := { maxStack := 8, maxLocals := 4, code := method_2_code, exceptionTable := #[], attributes := #[] }
def k1m1 : Method := { name := "inverseOdd", desc := "(J)J", sig := { parameters := [.long], returnType := some .long }, accessFlags := 10, code := some k1c1 }
def k1c2 : Code := { maxStack := 5, maxLocals := 4, code := method_3_code, exceptionTable := #[], attributes := #[] }
def k1m2 : Method := { name := "unmix", desc := "(J)J", sig := { parameters := [.long], returnType := some .long }, accessFlags := 10, code := some k1c2 }
def k1c3 : Code := { maxStack := 6, maxLocals := 11, code := code, exceptionTable := #[], attributes := #[] }
def k1m3 : Method := { name := "law", desc := "(J)Z", sig := { parameters := [.long], returnType := some .boolean }, accessFlags := 9, code := some k1c3 }
/-- com/example/nimble_trace/nimbletrace/SeededRandomNextLongPinLaw -/
def k1 : Class := { plain "com/example/nimble_trace/nimbletrace/SeededRandomNextLongPinLaw" (some 0) with
  accessFlags := 49
  interfaces := #[]
  cf := some (fileOf pool1 12 #[] #[{ accessFlags := 1, nameIndex := 5, descriptorIndex := 6, attributes := #[] }, { accessFlags := 10, nameIndex := 15, descriptorIndex := 16, attributes := #[] }, { accessFlags := 10, nameIndex := 32, descriptorIndex := 16, attributes := #[] }, { accessFlags := 9, nameIndex := 35, descriptorIndex := 36, attributes := #[] }] 49 2 #[] #[])
  fields := #[]
  methods := #[k1m0, k1m1, k1m2, k1m3]
  instanceTypes := #[]
  staticTypes := #[]
  resolved := Array.replicate 40 none
  statics := none }

def pool2 : Array CpInfo := pool [(1, .methodref 2 3), (0, .class_ 4), (0, .nameAndType 5 6), (0, u "java/lang/Object"), (0, u "<init>"), (0, u "()V"), (0, .fieldref 8 9), (0, .class_ 10), (0, .nameAndType 11 12), (0, u "com/example/nimble_trace/nimbletrace/SeededRandom"), (0, u "state"), (0, u "J"), (0, .long 11400714819323198485), (1, .long 13787848793156543929), (1, .long 10723151780598845931), (5, u "nextLong"), (0, u "()J"), (14, u "(J)V"), (0, u "GAMMA"), (1, u "RANGE_OF_INT_DRAWS")] 14

def k2c0 : Code := { maxStack := 3, maxLocals := 3, code := prog_11_method_1_code, exceptionTable := #[], attributes := #[] }
def k2m0 : Method := { name := "<init>", desc := "(J)V", sig := { parameters := [.long], returnType := none }, accessFlags := 1, code := some k2c0 }
def k2c1 : Code := { maxStack := 5, maxLocals := 3, code := prog_11_method_2_code, exceptionTable := #[], attributes := #[] }
def k2m1 : Method := { name := "nextLong", desc := "()J", sig := { parameters := [], returnType := some .long }, accessFlags := 1, code := some k2c1 }
/-- com/example/nimble_trace/nimbletrace/SeededRandom -/
def k2 : Class := { plain "com/example/nimble_trace/nimbletrace/SeededRandom" (some 0) with
  accessFlags := 49
  interfaces := #[]
  cf := some (fileOf pool2 8 #[] #[{ accessFlags := 1, nameIndex := 5, descriptorIndex := 39, attributes := #[] }, { accessFlags := 1, nameIndex := 23, descriptorIndex := 24, attributes := #[] }] 49 2 #[] #[{ accessFlags := 26, nameIndex := 40, descriptorIndex := 12, attributes := #[] }, { accessFlags := 26, nameIndex := 42, descriptorIndex := 12, attributes := #[] }, { accessFlags := 2, nameIndex := 11, descriptorIndex := 12, attributes := #[] }])
  fields := #[{ name := "GAMMA", type := .long, accessFlags := 26, slot := 0, constantValue := 0 }, { name := "RANGE_OF_INT_DRAWS", type := .long, accessFlags := 26, slot := 1, constantValue := 0 }, { name := "state", type := .long, accessFlags := 2, slot := 0, constantValue := 0 }]
  methods := #[k2m0, k2m1]
  instanceTypes := #[.long]
  staticTypes := #[.long, .long]
  resolved := Array.replicate 57 none
  statics := none }

def pool3 : Array CpInfo := pool [(1, u "java/lang/Cloneable"), (0, .class_ 1), (0, u "java/lang/Object"), (0, .class_ 3)] 3

/-- java/lang/Cloneable -/
def k3 : Class := { plain "java/lang/Cloneable" (some 0) with
  accessFlags := 1537
  interfaces := #[]
  cf := some (fileOf pool3 2 #[] #[] 1537 4 #[] #[])
  fields := #[]
  methods := #[]
  instanceTypes := #[]
  staticTypes := #[]
  resolved := Array.replicate 8 none
  statics := none }

def pool4 : Array CpInfo := pool [(1, u "java/io/Serializable"), (0, .class_ 1), (0, u "java/lang/Object"), (0, .class_ 3)] 3

/-- java/io/Serializable -/
def k4 : Class := { plain "java/io/Serializable" (some 0) with
  accessFlags := 1537
  interfaces := #[]
  cf := some (fileOf pool4 2 #[] #[] 1537 4 #[] #[])
  fields := #[]
  methods := #[]
  instanceTypes := #[]
  staticTypes := #[]
  resolved := Array.replicate 8 none
  statics := none }

/-- the primitive byte -/
def k5 : Class := { plain "byte" none with kind := .primitive 'B', accessFlags := 0x411 }
/-- [B -/
def k6 : Class := { plain "[B" (some 0) with kind := .array 5 .byte, interfaces := #[3, 4], accessFlags := 1041 }

/-- the primitive int -/
def k7 : Class := { plain "int" none with kind := .primitive 'I', accessFlags := 0x411 }
/-- [I -/
def k8 : Class := { plain "[I" (some 0) with kind := .array 7 .int, interfaces := #[3, 4], accessFlags := 1041 }

def heap : Heap := #[]
def classes : Array Class := #[k0, k1, k2, k3, k4, k5, k6, k7, k8]
def interned : List (Array UInt16 × Addr) := []
def slotsUsed : Nat := 0
def theMethod : MethodId := ⟨1, 3⟩
def args0 : Array Value := #[.long 4]
def aboutOver (below : List Frame) : State where
  vm := { classes := classes, interned := interned.toArray }
  heap := heap
  slotsUsed := slotsUsed
  threads := #[{ frames := .invoking theMethod args0 :: below }]
def below0 : List Frame := [.native { method := ⟨0, 0⟩, args := #[] }]
def about1 : State := aboutOver below0
def p0 : Program := .bare "" "" ""
def e0 : Env := launch0.env 0 0 0
theorem w_frames : about1.frames = Frame.invoking theMethod args0 :: below0 := rfl
set_option maxRecDepth 65536 in
theorem w_args : argsFit about1.vm theMethod args0 = true := by decide +kernel
set_option maxRecDepth 65536 in
theorem w_heap : heapFits about1 = true := by decide +kernel
set_option maxRecDepth 65536 in
theorem w_runnable : about1.curStatus? = some .runnable := by decide +kernel
set_option maxRecDepth 65536 in
theorem w_alone : about1.alone = true := by decide +kernel
set_option maxRecDepth 65536 in
theorem w_named : about1.methodNamed? x = some theMethod := by decide +kernel
set_option maxRecDepth 65536 in
theorem w_hears : about1.hears theMethod below0 = true := by decide +kernel
set_option maxRecDepth 65536 in
theorem w_ripe : about1.ripe theMethod args0 below0 = true := by decide +kernel
theorem w_running : about1.status = .running := rfl
set_option maxRecDepth 65536 in
theorem w_room : about1.hasRoom e0.platform room_1 = true :=
  launch0.hasRoom_least _ room_1 (by decide +kernel) (by decide +kernel) (by decide +kernel) (by decide +kernel) (by decide +kernel) (by decide +kernel)
theorem allAtoms_all (ts : List Jvm.Cond) (a : Array Jvm.Value) (st : Jvm.State) : (allAtoms ts).before a st = ts.all (fun c => c.before a st) := by
  induction ts with
  | nil => rfl
  | cons c t ih =>
    show (Jvm.Cond.and c (allAtoms t)).before a st = _
    rw [Jvm.Cond.before_and, ih, List.all_cons]
def words1 : List Jvm.Cond := Jvm.Cond.code x code maxLocals ret :: tables_1
/-- a 'code' word, met by the world's own term for the bytes: nothing is compared byte by byte -/
theorem code_word {y : MethodName} {bytes : ByteArray} {mx : Nat} {rt : Option FieldType} {a : Array Value} {s : State} {m : MethodId} {meth : Method} {c : Code} (h1 : s.methodNamed? y = some m) (h2 : s.vm.method? m = some meth) (h3 : meth.code = some c) (h4 : c.code = bytes)
    (h5 : (c.maxLocals == mx && c.exceptionTable.isEmpty && decide (c.maxStack ≤ mostOperands) && decide (meth.sig.returnType = rt) && !meth.locks && decide (parseMethodDescriptor y.desc = some meth.sig)) = true) : (Jvm.Cond.code y bytes mx rt).before a s = true := by
  simp only [Bool.and_eq_true, beq_iff_eq, Bool.not_eq_true', decide_eq_true_eq] at h5
  obtain ⟨⟨⟨⟨⟨g1, g2⟩, g3⟩, g4⟩, g5⟩, g6⟩ := h5
  simp [Cond.before, Cond.holds, Cond.value, h1, h2, h3, h4, g1, g2, g3, g4, g5, g6]
def isCode : Jvm.Cond → Bool
  | .code _ _ _ _ => true
  | _ => false
theorem all_split {L : List Jvm.Cond} {P : Jvm.Cond → Bool} (h1 : L.all (fun c => isCode c || P c) = true) (h2 : ∀ c ∈ L.filter isCode, P c = true) : L.all P = true := by
  refine List.all_eq_true.mpr fun c hc => ?_
  have h := List.all_eq_true.mp h1 c hc
  rcases Bool.eq_false_or_eq_true (isCode c) with hi | hi
  · exact h2 c (List.mem_filter.mpr ⟨hc, hi⟩)
  · simpa [hi] using h
set_option maxRecDepth 65536 in
theorem w_c0 : (Jvm.Cond.code x code maxLocals ret).before args0 about1 = true := code_word (m := ⟨1, 3⟩) (meth := k1m3) (c := k1c3) (by decide +kernel) rfl rfl rfl (by decide +kernel)
set_option maxRecDepth 65536 in
theorem w_c1 : (Jvm.Cond.code ({ cls := "com/example/nimble_trace/nimbletrace/SeededRandom", name := "<init>", desc := "(J)V" } : Jvm.MethodName) prog_11_method_1_code (3 : Nat) (Option.none : Option Jvm.ClassFile.FieldType)).before args0 about1 = true := code_word (m := ⟨2, 0⟩) (meth := k2m0) (c := k2c0) (by decide +kernel) rfl rfl rfl (by decide +kernel)
set_option maxRecDepth 65536 in
theorem w_c2 : (Jvm.Cond.code ({ cls := "java/lang/Object", name := "<init>", desc := "()V" } : Jvm.MethodName) object_method_1_code (1 : Nat) (Option.none : Option Jvm.ClassFile.FieldType)).before args0 about1 = true := code_word (m := ⟨0, 0⟩) (meth := k0m0) (c := k0c0) (by decide +kernel) rfl rfl rfl (by decide +kernel)
set_option maxRecDepth 65536 in
theorem w_c3 : (Jvm.Cond.code ({ cls := "com/example/nimble_trace/nimbletrace/SeededRandom", name := "nextLong", desc := "()J" } : Jvm.MethodName) prog_11_method_2_code (3 : Nat) (Option.some Jvm.ClassFile.FieldType.long)).before args0 about1 = true := code_word (m := ⟨2, 1⟩) (meth := k2m1) (c := k2c1) (by decide +kernel) rfl rfl rfl (by decide +kernel)
set_option maxRecDepth 65536 in
theorem w_c4 : (Jvm.Cond.code ({ cls := "com/example/nimble_trace/nimbletrace/SeededRandomNextLongPinLaw", name := "unmix", desc := "(J)J" } : Jvm.MethodName) method_3_code (4 : Nat) (Option.some Jvm.ClassFile.FieldType.long)).before args0 about1 = true := code_word (m := ⟨1, 2⟩) (meth := k1m2) (c := k1c2) (by decide +kernel) rfl rfl rfl (by decide +kernel)
set_option maxRecDepth 65536 in
theorem w_c5 : (Jvm.Cond.code ({ cls := "com/example/nimble_trace/nimbletrace/SeededRandomNextLongPinLaw", name := "inverseOdd", desc := "(J)J" } : Jvm.MethodName) method_2_code (4 : Nat) (Option.some Jvm.ClassFile.FieldType.long)).before args0 about1 = true := code_word (m := ⟨1, 1⟩) (meth := k1m1) (c := k1c1) (by decide +kernel) rfl rfl rfl (by decide +kernel)
def codes1 : List Jvm.Cond := [Jvm.Cond.code x code maxLocals ret, Jvm.Cond.code ({ cls := "com/example/nimble_trace/nimbletrace/SeededRandom", name := "<init>", desc := "(J)V" } : Jvm.MethodName) prog_11_method_1_code (3 : Nat) (Option.none : Option Jvm.ClassFile.FieldType), Jvm.Cond.code ({ cls := "java/lang/Object", name := "<init>", desc := "()V" } : Jvm.MethodName) object_method_1_code (1 : Nat) (Option.none : Option Jvm.ClassFile.FieldType), Jvm.Cond.code ({ cls := "com/example/nimble_trace/nimbletrace/SeededRandom", name := "nextLong", desc := "()J" } : Jvm.MethodName) prog_11_method_2_code (3 : Nat) (Option.some Jvm.ClassFile.FieldType.long), Jvm.Cond.code ({ cls := "com/example/nimble_trace/nimbletrace/SeededRandomNextLongPinLaw", name := "unmix", desc := "(J)J" } : Jvm.MethodName) method_3_code (4 : Nat) (Option.some Jvm.ClassFile.FieldType.long), Jvm.Cond.code ({ cls := "com/example/nimble_trace/nimbletrace/SeededRandomNextLongPinLaw", name := "inverseOdd", desc := "(J)J" } : Jvm.MethodName) method_2_code (4 : Nat) (Option.some Jvm.ClassFile.FieldType.long)]
set_option maxRecDepth 65536 in
theorem codes_eq : words1.filter isCode = codes1 := rfl
theorem w_codes : ∀ c ∈ words1.filter isCode, c.before args0 about1 = true := by
  rw [codes_eq]
  intro c hc
  simp only [codes1, List.mem_cons, List.not_mem_nil, or_false] at hc
  rcases hc with rfl | rfl | rfl | rfl | rfl | rfl
  · exact w_c0
  · exact w_c1
  · exact w_c2
  · exact w_c3
  · exact w_c4
  · exact w_c5
set_option maxRecDepth 65536 in
theorem w_t1 : (words1.take 24).all (fun c => isCode c || c.before args0 about1) = true := by decide +kernel
set_option maxRecDepth 65536 in
theorem w_t2 : (words1.drop 24).all (fun c => isCode c || c.before args0 about1) = true := by decide +kernel
theorem w_tables : (allAtoms (Jvm.Cond.code x code maxLocals ret :: tables_1)).before args0 about1 = true := by
  rw [allAtoms_all]
  show words1.all (fun c => c.before args0 about1) = true
  refine all_split ?_ w_codes
  rw [← List.take_append_drop 24 words1, List.all_append, w_t1, w_t2]
  rfl
set_option maxRecDepth 65536 in
theorem w_case : (Jvm.Cond.and given_1 narrow_1).before args0 about1 = true := by decide +kernel
theorem w_applies : (headSpec (Jvm.Cond.code x code maxLocals ret :: tables_1) room_1).applies x e0.platform about1 = true :=
  (Spec.applies_iff w_frames).mpr ⟨w_running, w_runnable, w_alone, w_named, w_hears, w_ripe, w_room, w_tables⟩
theorem atStart : AtStart classFile x code maxLocals ret World_1 tables_1 room_1 Calls_1 rest_1 Pre_1 launch0 p0 e0 about1 theMethod args0 below0 :=
  ⟨lists_1, trivial, launch0.admits_env _ _ _, launch0.least_env, fairChoices_fair.cas, fairChoices_fair.clock, w_frames, w_args, w_heap, w_applies, trivial, trivial, w_case⟩
end start1
theorem witness_1 : WitnessClaimed_1 := ⟨start1.p0, start1.e0, start1.about1, start1.theMethod, start1.args0, start1.below0, start1.atStart⟩
end Jvm.Pilot.@@N@@
