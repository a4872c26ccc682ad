import JvmDerived
import JvmDerived.Pilot.@@N@@Statement
import JvmDerived.Pilot.@@N@@Code
set_option linter.unusedVariables false
set_option linter.unusedSimpArgs false
namespace Jvm.Pilot.@@N@@
open Jvm Jvm.ClassFile Sem Op Lib Jvm.Free Jvm.Stand Jvm.LawKit Jvm.RoadKit Bundle Jvm.Pilot.@@N@@.Jvm.D
/-- from the state A the run comes to an end of which R holds -/
def own_Fin (tb : Tables) (e : Env) (below : List Frame) (A : State) (R : State → Outcome → Prop) : Prop := ∃ s₂ o, Steps tb e below A s₂ ∧ R s₂ o
theorem own_in {tb : Tables} {e : Env} {below : List Frame} {A : State} {R : State → Outcome → Prop} (h : own_Fin tb e below A R) : ∃ s₂ o, Steps tb e below A s₂ ∧ R s₂ o := h
theorem own_go {tb : Tables} {e : Env} {below : List Frame} {A B : State} {R : State → Outcome → Prop} (st : ∀ t, Steps tb e below B t → Steps tb e below A t) (h : own_Fin tb e below B R) : own_Fin tb e below A R := by
  obtain ⟨s₂, o, h1, h2⟩ := h
  exact ⟨s₂, o, st _ h1, h2⟩
theorem own_beqT {P : Prop} [Decidable P] (h : ¬ P) : ifCond.holds .eq (if P then (1 : Int32) else 0) = true := by rw [if_neg h]; rfl
theorem own_beqF {P : Prop} [Decidable P] (h : P) : ifCond.holds .eq (if P then (1 : Int32) else 0) = false := by rw [if_pos h]; rfl
theorem own_bneT {P : Prop} [Decidable P] (h : P) : ifCond.holds .ne (if P then (1 : Int32) else 0) = true := by rw [if_pos h]; rfl
theorem own_bneF {P : Prop} [Decidable P] (h : ¬ P) : ifCond.holds .ne (if P then (1 : Int32) else 0) = false := by rw [if_neg h]; rfl
theorem own_bEq {P R : Prop} [Decidable P] [Decidable R] (h : P ↔ R) : (if P then (1 : Int32) else 0) = (if R then (1 : Int32) else 0) := by
  by_cases p : P
  · rw [if_pos p, if_pos (h.mp p)]
  · rw [if_neg p, if_neg fun r => p (h.mpr r)]
theorem own_bNe {P R : Prop} [Decidable P] [Decidable R] (h : ¬ (P ↔ R)) : ¬ (if P then (1 : Int32) else 0) = (if R then (1 : Int32) else 0) := by
  intro q
  apply h
  by_cases p : P <;> by_cases r : R
  · exact ⟨fun _ => r, fun _ => p⟩
  · rw [if_pos p, if_neg r] at q; exact absurd q (by decide)
  · rw [if_neg p, if_pos r] at q; exact absurd q (by decide)
  · exact ⟨fun x => absurd x p, fun x => absurd x r⟩
theorem own_fitB {P : Prop} [Decidable P] : fits .boolean (.int (if P then (1 : Int32) else 0)) = true := by by_cases p : P <;> simp only [p, if_true, if_false] <;> rfl
theorem own_narB {P : Prop} [Decidable P] : narrow .boolean (.int (if P then (1 : Int32) else 0)) = .int (if P then (1 : Int32) else 0) := by by_cases p : P <;> simp only [p, if_true, if_false] <;> rfl
theorem own_eqI {args : Array Value} {s : State} {t : Term} {k : Int32} (h : (Cond.eq t (.int k)).value args s none s [] = some true) : t.eval args s none [] s = some (.int k) := by
  cases e : t.eval args s none [] s with
  | none => simp [Cond.value, e] at h
  | some v => cases v <;> simp_all [Cond.value, Term.eval]
theorem d1_0 : decode prog_28_method_11_code 0 = .ok (.aload_n 0, 1) := by decide +kernel
theorem d1_1 : decode prog_28_method_11_code 1 = .ok (.getfield 43, 3) := by decide +kernel
theorem d1_4 : decode prog_28_method_11_code 4 = .ok (.ifCond .eq 14, 3) := by decide +kernel
theorem d1_7 : decode prog_28_method_11_code 7 = .ok (.iload_n 1, 1) := by decide +kernel
theorem d1_8 : decode prog_28_method_11_code 8 = .ok (.bipush 63, 2) := by decide +kernel
theorem d1_10 : decode prog_28_method_11_code 10 = .ok (.if_icmp .lt 8, 3) := by decide +kernel
theorem d1_13 : decode prog_28_method_11_code 13 = .ok (.bipush 35, 2) := by decide +kernel
theorem d1_15 : decode prog_28_method_11_code 15 = .ok (.goto 4, 3) := by decide +kernel
theorem d1_18 : decode prog_28_method_11_code 18 = .ok (.iconst 0, 1) := by decide +kernel
theorem d1_19 : decode prog_28_method_11_code 19 = .ok (.ireturn, 1) := by decide +kernel
theorem pn1 : plainName "com/example/rollhaus/rollhaus/scorecard/Card" = true := by first | (simp [plainName, overriddenIn]; done) | decide +kernel
theorem ef1 (m : MethodId) (r0 : Addr) (p1 : Int32) : entryFrame m #[(.ref r0), (.int p1)] 2 = mkF m 0 #[.val (.ref r0), .val (.int p1)] [] := by first | (simp [entryFrame, mkF, argsToLocals, Value.category]; done) | rfl
def Q1 (Z : State) (r0 : Addr) (p1 : Int32) (u : Int32) (h0 : Heap) (n0 : Nat) (v : Option Value) (h : Heap) (L : List Loc) : Prop := v = some (.int (if u = (0 : Int32) then (0 : Int32) else (if p1 < (63 : Int32) then (0 : Int32) else (35 : Int32)))) ∧ Fr n0 L ∧ h = h0
set_option maxRecDepth 65536 in
set_option maxHeartbeats 40000000 in
theorem rm1 (l : Launch) (Z : State) (a0 : Array Value) (hw : ∀ d ∈ tables_1, d.before a0 Z = true) (ws : List Jvm.Cond) (r0 : Addr) (p1 : Int32) (u : Int32) (h0 : Heap) (n0 : Nat) (Z0 : n0 ≤ h0.size) (F_ub : Fld Z h0 r0 "com/example/rollhaus/rollhaus/scorecard/Card" "upperBonus" "Z" (.int u)) :
    MetFree l (⟨"com/example/rollhaus/rollhaus/scorecard/Card", "upperBonus", "(I)I"⟩ : MethodName) (head1 (Jvm.Cond.code (⟨"com/example/rollhaus/rollhaus/scorecard/Card", "upperBonus", "(I)I"⟩ : MethodName) prog_28_method_11_code 2 (some .int) :: ws) ({ frames := 0, cells := 0, slots := 0, locals := 0 } : Room)) (fun a U => a = #[(.ref r0), (.int p1)] ∧ Z.Warmed39 U.vm ∧ U.heap = h0) (fun _ _ _ _ _ => True) (fun _ U o U' => ∃ v L, o = .returned v ∧ Q1 Z r0 p1 u h0 n0 v U'.heap L ∧ FrameEnd U o U' L ({ frames := 0, cells := 0, slots := 0, locals := 0 } : Room).cells ({ frames := 0, cells := 0, slots := 0, locals := 0 } : Room).slots) := by
  refine MetFree.of_bodySF (plainFor_of_name pn1) hisR ?_
  intro p e s m args below meth c s₁ Bd hml0 hP hK
  obtain ⟨rfl, hZ, hh⟩ := hP
  have hx := Bd.exec
  have hby := Bd.bytes
  have hml : c.maxLocals = 2 := hml0
  have hown : s.vm.findClass "com/example/rollhaus/rollhaus/scorecard/Card" = some m.cls := findClass_of_methodNamed Bd.named
  have hnm := (name_of_methodNamed Bd.named Bd.method).1
  have X0 : Stand p l e ({ frames := 0, cells := 0, slots := 0, locals := 0 } : Room) s m #[(.ref r0), (.int p1)] below meth c s₁ [] 0 0 := Stand.of_body Bd
  have e0 : s₁.heap = h0 := by rw [← hh, Bd.state]; rfl
  have N0 := Fr.nil n0
  have K0 : Keep h0 h0 [] := Keep.refl h0 _
  refine own_in ?_
  refine own_go (B := s₁.setTop (mkF m 0 #[.val (.ref r0), .val (.int p1)] [])) (fun t k => castTop (ef1 m r0 p1) k) ?_
  refine own_go (B := s₁.setTop (mkF m 1 #[.val (.ref r0), .val (.int p1)] [(.ref r0)])) (fun t k => ?_) ?_
  · show Steps p.tables e below (s₁.setTop (mkF m 0 #[.val (.ref r0), .val (.int p1)] [])) t
    refine XS.aloadN X0.here hx rfl (hb hby d1_0) rfl rfl ?_
    exact k
  obtain ⟨T1, X1, e1, st1⟩ := getF X0 hx hZ hown (host := "") (Or.inl (hw _ (List.mem_of_getElem? (i := 8) rfl))) Via.refl e0 F_ub (g := (mkF m 1 #[.val (.ref r0), .val (.int p1)] [(.ref r0)])) rfl rfl (hb hby d1_1)
  refine own_go st1 ?_
  show own_Fin p.tables e below (T1.setTop (mkF m 4 #[.val (.ref r0), .val (.int p1)] [(.int u)])) _
  refine own_go (B := T1.setTop (mkF m 19 #[.val (.ref r0), .val (.int p1)] [(.int (if u = (0 : Int32) then (0 : Int32) else (if p1 < (63 : Int32) then (0 : Int32) else (35 : Int32))))])) (fun t k => ?_) ?_
  · skip
    show Steps p.tables e below (T1.setTop (mkF m 4 #[.val (.ref r0), .val (.int p1)] [(.int u)])) t
    by_cases hd2 : u = (0 : Int32)
    · refine XS.ifYes X1.here hx rfl (pc0 := 4) (pc' := 18) rfl (hb hby d1_4) rfl ((if0 _ _).trans (teq hd2).1) (by decide) (by decide) ?_
      show Steps p.tables e below (T1.setTop (mkF m 18 #[.val (.ref r0), .val (.int p1)] [])) t
      refine XS.iconst X1.here hx rfl (hb hby d1_18) ?_
      show Steps p.tables e below (T1.setTop (mkF m 19 #[.val (.ref r0), .val (.int p1)] [(.int (0 : Int32))])) t
      exact (congrArg (fun z => Steps p.tables e below (T1.setTop (mkF m 19 #[.val (.ref r0), .val (.int p1)] [(.int z)])) t) (if_pos hd2)).mp k
    · refine XS.ifNo X1.here hx rfl (hb hby d1_4) rfl ((if0 _ _).trans (feq hd2).1) ?_
      show Steps p.tables e below (T1.setTop (mkF m 7 #[.val (.ref r0), .val (.int p1)] [])) t
      refine XS.iloadN X1.here hx rfl (hb hby d1_7) rfl ?_
      show Steps p.tables e below (T1.setTop (mkF m 8 #[.val (.ref r0), .val (.int p1)] [(.int p1)])) t
      refine XS.bipush X1.here hx rfl (hb hby d1_8) ?_
      show Steps p.tables e below (T1.setTop (mkF m 10 #[.val (.ref r0), .val (.int p1)] [(.int (63 : Int32)), (.int p1)])) t
      by_cases hd3 : p1 < (63 : Int32)
      · refine XS.icmpYes X1.here hx rfl (pc0 := 10) (pc' := 18) rfl (hb hby d1_10) rfl (tlt hd3).1 (by decide) (by decide) ?_
        show Steps p.tables e below (T1.setTop (mkF m 18 #[.val (.ref r0), .val (.int p1)] [])) t
        refine XS.iconst X1.here hx rfl (hb hby d1_18) ?_
        show Steps p.tables e below (T1.setTop (mkF m 19 #[.val (.ref r0), .val (.int p1)] [(.int (0 : Int32))])) t
        exact (congrArg (fun z => Steps p.tables e below (T1.setTop (mkF m 19 #[.val (.ref r0), .val (.int p1)] [(.int z)])) t) ((if_neg hd2).trans (if_pos hd3))).mp k
      · refine XS.icmpNo X1.here hx rfl (hb hby d1_10) rfl (flt hd3).1 ?_
        show Steps p.tables e below (T1.setTop (mkF m 13 #[.val (.ref r0), .val (.int p1)] [])) t
        refine XS.bipush X1.here hx rfl (hb hby d1_13) ?_
        show Steps p.tables e below (T1.setTop (mkF m 15 #[.val (.ref r0), .val (.int p1)] [(.int (35 : Int32))])) t
        refine XS.goto X1.here hx rfl (pc0 := 15) (pc' := 19) rfl (hb hby d1_15) (by decide) (by decide) ?_
        show Steps p.tables e below (T1.setTop (mkF m 19 #[.val (.ref r0), .val (.int p1)] [(.int (35 : Int32))])) t
        exact (congrArg (fun z => Steps p.tables e below (T1.setTop (mkF m 19 #[.val (.ref r0), .val (.int p1)] [(.int z)])) t) ((if_neg hd2).trans (if_neg hd3))).mp k
  obtain ⟨fs, hr, hrun, hended, hW, hsame⟩ := X1.leave (v := some (.int (if u = (0 : Int32) then (0 : Int32) else (if p1 < (63 : Int32) then (0 : Int32) else (35 : Int32))))) (fun h => by rw [Bd.returns] at h; cases h)
  refine ⟨_, _, ?_, hrun, hended, _, _, rfl, ?_, ⟨_, rfl⟩, hW, hsame.mono (by decide) (by decide)⟩
  · exact retOut X1 hx (t := .int) Bd.returns rfl (Or.inl ⟨rfl, by simp, _, rfl⟩) (hb hby d1_19) hr
  · show Q1 Z r0 p1 u h0 n0 _ T1.heap _
    rw [e1]
    exact ⟨rfl, N0, rfl⟩
theorem d2_0 : decode method_3_code 0 = .ok (.iload_n 0, 1) := by decide +kernel
theorem d2_1 : decode method_3_code 1 = .ok (.ifCond .ne 5, 3) := by decide +kernel
theorem d2_4 : decode method_3_code 4 = .ok (.iconst 0, 1) := by decide +kernel
theorem d2_5 : decode method_3_code 5 = .ok (.ireturn, 1) := by decide +kernel
theorem d2_6 : decode method_3_code 6 = .ok (.iload_n 1, 1) := by decide +kernel
theorem d2_7 : decode method_3_code 7 = .ok (.bipush 63, 2) := by decide +kernel
theorem d2_9 : decode method_3_code 9 = .ok (.if_icmp .ge 5, 3) := by decide +kernel
theorem d2_12 : decode method_3_code 12 = .ok (.iconst 0, 1) := by decide +kernel
theorem d2_13 : decode method_3_code 13 = .ok (.ireturn, 1) := by decide +kernel
theorem d2_14 : decode method_3_code 14 = .ok (.bipush 35, 2) := by decide +kernel
theorem d2_16 : decode method_3_code 16 = .ok (.ireturn, 1) := by decide +kernel
theorem pn2 : plainName "com/example/rollhaus/rollhaus/scorecard/CardUpperBonusPinLaw" = true := by first | (simp [plainName, overriddenIn]; done) | decide +kernel
theorem ef2 (m : MethodId) (p0 : Int32) (p1 : Int32) : entryFrame m #[(.int p0), (.int p1)] 2 = mkF m 0 #[.val (.int p0), .val (.int p1)] [] := by first | (simp [entryFrame, mkF, argsToLocals, Value.category]; done) | rfl
def Q2 (Z : State) (p0 : Int32) (p1 : Int32) (h0 : Heap) (n0 : Nat) (v : Option Value) (h : Heap) (L : List Loc) : Prop := v = some (.int (if p0 = (0 : Int32) then (0 : Int32) else (if p1 < (63 : Int32) then (0 : Int32) else (35 : Int32)))) ∧ Fr n0 L ∧ h = h0
set_option maxRecDepth 65536 in
set_option maxHeartbeats 40000000 in
theorem rm2 (l : Launch) (Z : State) (a0 : Array Value) (hw : ∀ d ∈ tables_1, d.before a0 Z = true) (ws : List Jvm.Cond) (p0 : Int32) (p1 : Int32) (h0 : Heap) (n0 : Nat) (Z0 : n0 ≤ h0.size) :
    MetFree l (⟨"com/example/rollhaus/rollhaus/scorecard/CardUpperBonusPinLaw", "expected", "(ZI)I"⟩ : MethodName) (head1 (Jvm.Cond.code (⟨"com/example/rollhaus/rollhaus/scorecard/CardUpperBonusPinLaw", "expected", "(ZI)I"⟩ : MethodName) method_3_code 2 (some .int) :: ws) ({ frames := 0, cells := 0, slots := 0, locals := 0 } : Room)) (fun a U => a = #[(.int p0), (.int p1)] ∧ Z.Warmed39 U.vm ∧ U.heap = h0) (fun _ _ _ _ _ => True) (fun _ U o U' => ∃ v L, o = .returned v ∧ Q2 Z p0 p1 h0 n0 v U'.heap L ∧ FrameEnd U o U' L ({ frames := 0, cells := 0, slots := 0, locals := 0 } : Room).cells ({ frames := 0, cells := 0, slots := 0, locals := 0 } : Room).slots) := by
  refine MetFree.of_bodySF (plainFor_of_name pn2) hisR ?_
  intro p e s m args below meth c s₁ Bd hml0 hP hK
  obtain ⟨rfl, hZ, hh⟩ := hP
  have hx := Bd.exec
  have hby := Bd.bytes
  have hml : c.maxLocals = 2 := hml0
  have hown : s.vm.findClass "com/example/rollhaus/rollhaus/scorecard/CardUpperBonusPinLaw" = some m.cls := findClass_of_methodNamed Bd.named
  have hnm := (name_of_methodNamed Bd.named Bd.method).1
  have X0 : Stand p l e ({ frames := 0, cells := 0, slots := 0, locals := 0 } : Room) s m #[(.int p0), (.int p1)] below meth c s₁ [] 0 0 := Stand.of_body Bd
  have e0 : s₁.heap = h0 := by rw [← hh, Bd.state]; rfl
  have N0 := Fr.nil n0
  have K0 : Keep h0 h0 [] := Keep.refl h0 _
  refine own_in ?_
  refine own_go (B := s₁.setTop (mkF m 0 #[.val (.int p0), .val (.int p1)] [])) (fun t k => castTop (ef2 m p0 p1) k) ?_
  refine own_go (B := s₁.setTop (mkF m 1 #[.val (.int p0), .val (.int p1)] [(.int p0)])) (fun t k => ?_) ?_
  · show Steps p.tables e below (s₁.setTop (mkF m 0 #[.val (.int p0), .val (.int p1)] [])) t
    refine XS.iloadN X0.here hx rfl (hb hby d2_0) rfl ?_
    exact k
  by_cases hc1 : p0 = (0 : Int32)
  · skip
    refine own_go (B := s₁.setTop (mkF m 5 #[.val (.int p0), .val (.int p1)] [(.int (0 : Int32))])) (fun t k => ?_) ?_
    · show Steps p.tables e below (s₁.setTop (mkF m 1 #[.val (.int p0), .val (.int p1)] [(.int p0)])) t
      refine XS.ifNo X0.here hx rfl (hb hby d2_1) rfl ((if0 _ _).trans (teq hc1).2) ?_
      refine XS.iconst X0.here hx rfl (hb hby d2_4) ?_
      exact k
    obtain ⟨fs, hr, hrun, hended, hW, hsame⟩ := X0.leave (v := some (.int (0 : Int32))) (fun h => by rw [Bd.returns] at h; cases h)
    refine ⟨_, _, ?_, hrun, hended, _, _, rfl, ?_, ⟨_, rfl⟩, hW, hsame.mono (by decide) (by decide)⟩
    · exact retOut X0 hx (t := .int) Bd.returns rfl (Or.inl ⟨rfl, by simp, _, rfl⟩) (hb hby d2_5) hr
    · show Q2 Z p0 p1 h0 n0 _ s₁.heap _
      rw [e0]
      exact ⟨by simp only [if_pos hc1], N0, rfl⟩
  · skip
    refine own_go (B := s₁.setTop (mkF m 9 #[.val (.int p0), .val (.int p1)] [(.int (63 : Int32)), (.int p1)])) (fun t k => ?_) ?_
    · show Steps p.tables e below (s₁.setTop (mkF m 1 #[.val (.int p0), .val (.int p1)] [(.int p0)])) t
      refine XS.ifYes X0.here hx rfl (pc0 := 1) (pc' := 6) rfl (hb hby d2_1) rfl ((if0 _ _).trans (feq hc1).2) (by decide) (by decide) ?_
      refine XS.iloadN X0.here hx rfl (hb hby d2_6) rfl ?_
      refine XS.bipush X0.here hx rfl (hb hby d2_7) ?_
      exact k
    by_cases hc3 : p1 < (63 : Int32)
    · skip
      refine own_go (B := s₁.setTop (mkF m 13 #[.val (.int p0), .val (.int p1)] [(.int (0 : Int32))])) (fun t k => ?_) ?_
      · show Steps p.tables e below (s₁.setTop (mkF m 9 #[.val (.int p0), .val (.int p1)] [(.int (63 : Int32)), (.int p1)])) t
        refine XS.icmpNo X0.here hx rfl (hb hby d2_9) rfl (tlt hc3).2.1 ?_
        refine XS.iconst X0.here hx rfl (hb hby d2_12) ?_
        exact k
      obtain ⟨fs, hr, hrun, hended, hW, hsame⟩ := X0.leave (v := some (.int (0 : Int32))) (fun h => by rw [Bd.returns] at h; cases h)
      refine ⟨_, _, ?_, hrun, hended, _, _, rfl, ?_, ⟨_, rfl⟩, hW, hsame.mono (by decide) (by decide)⟩
      · exact retOut X0 hx (t := .int) Bd.returns rfl (Or.inl ⟨rfl, by simp, _, rfl⟩) (hb hby d2_13) hr
      · show Q2 Z p0 p1 h0 n0 _ s₁.heap _
        rw [e0]
        exact ⟨by simp only [if_neg hc1, if_pos hc3], N0, rfl⟩
    · skip
      refine own_go (B := s₁.setTop (mkF m 16 #[.val (.int p0), .val (.int p1)] [(.int (35 : Int32))])) (fun t k => ?_) ?_
      · show Steps p.tables e below (s₁.setTop (mkF m 9 #[.val (.int p0), .val (.int p1)] [(.int (63 : Int32)), (.int p1)])) t
        refine XS.icmpYes X0.here hx rfl (pc0 := 9) (pc' := 14) rfl (hb hby d2_9) rfl (flt hc3).2.1 (by decide) (by decide) ?_
        refine XS.bipush X0.here hx rfl (hb hby d2_14) ?_
        exact k
      obtain ⟨fs, hr, hrun, hended, hW, hsame⟩ := X0.leave (v := some (.int (35 : Int32))) (fun h => by rw [Bd.returns] at h; cases h)
      refine ⟨_, _, ?_, hrun, hended, _, _, rfl, ?_, ⟨_, rfl⟩, hW, hsame.mono (by decide) (by decide)⟩
      · exact retOut X0 hx (t := .int) Bd.returns rfl (Or.inl ⟨rfl, by simp, _, rfl⟩) (hb hby d2_16) hr
      · show Q2 Z p0 p1 h0 n0 _ s₁.heap _
        rw [e0]
        exact ⟨by simp only [if_neg hc1, if_neg hc3], N0, rfl⟩
theorem pn0 : plainName "com/example/rollhaus/rollhaus/scorecard/CardUpperBonusPinLaw" = true := by first | (simp [plainName, overriddenIn]; done) | decide +kernel
theorem pd0_0 : parseMethodDescriptor "(I)I" = some ⟨[.int], some .int⟩ := by decide +kernel
theorem pd0_1 : parseMethodDescriptor "(ZI)I" = some ⟨[.boolean, .int], some .int⟩ := by decide +kernel
theorem ef0 (m : MethodId) (p0 : Int32) (p1 : Int32) (p2 : Int32) : entryFrame m #[(.int p0), (.int p1), (.int p2)] maxLocals = mkF m 0 #[.val (.int p0), .val (.int p1), .val (.int p2), .unset, .unset, .unset, .unset] [] := by first | (simp [entryFrame, mkF, argsToLocals, Value.category, maxLocals]; done) | rfl
def Q0 (Z : State) (p0 : Int32) (p1 : Int32) (p2 : Int32) (fa : Addr) (fb : Addr) (fc : Addr) (fd : Addr) (h0 : Heap) (n0 : Nat) (v : Option Value) (h : Heap) (L : List Loc) : Prop := v = some (.int 1) ∧ Fr n0 L
set_option maxRecDepth 65536 in
set_option maxHeartbeats 40000000 in
theorem rm0 (l : Launch) (Z : State) (a0 : Array Value) (hw : ∀ d ∈ tables_1, d.before a0 Z = true) (ws : List Jvm.Cond) (p0 : Int32) (p1 : Int32) (p2 : Int32) (fa : Addr) (fb : Addr) (fc : Addr) (fd : Addr) (h0 : Heap) (n0 : Nat) (Z0 : n0 ≤ h0.size) (O0 : Old Z n0 h0) (S_KNUBBEL_V1 : Sta Z Z.heap "com/example/rollhaus/rollhaus/scorecard/Card" "KNUBBEL_V1" "Lcom/example/rollhaus/rollhaus/scorecard/Card;" (.ref fa)) (E_fa : Exa Z h0 fa "com/example/rollhaus/rollhaus/scorecard/Card") (F_fa : Fld Z h0 fa "com/example/rollhaus/rollhaus/scorecard/Card" "upperBonus" "Z" (.int (0 : Int32))) (S_KNUBBEL_V2 : Sta Z Z.heap "com/example/rollhaus/rollhaus/scorecard/Card" "KNUBBEL_V2" "Lcom/example/rollhaus/rollhaus/scorecard/Card;" (.ref fb)) (E_fb : Exa Z h0 fb "com/example/rollhaus/rollhaus/scorecard/Card") (F_fb : Fld Z h0 fb "com/example/rollhaus/rollhaus/scorecard/Card" "upperBonus" "Z" (.int (0 : Int32))) (S_YAHTZEE : Sta Z Z.heap "com/example/rollhaus/rollhaus/scorecard/Card" "YAHTZEE" "Lcom/example/rollhaus/rollhaus/scorecard/Card;" (.ref fc)) (E_fc : Exa Z h0 fc "com/example/rollhaus/rollhaus/scorecard/Card") (F_fc : Fld Z h0 fc "com/example/rollhaus/rollhaus/scorecard/Card" "upperBonus" "Z" (.int (1 : Int32))) (S_KNUBBEL_V3 : Sta Z Z.heap "com/example/rollhaus/rollhaus/scorecard/Card" "KNUBBEL_V3" "Lcom/example/rollhaus/rollhaus/scorecard/Card;" (.ref fd)) (E_fd : Exa Z h0 fd "com/example/rollhaus/rollhaus/scorecard/Card") (F_fd : Fld Z h0 fd "com/example/rollhaus/rollhaus/scorecard/Card" "upperBonus" "Z" (.int (1 : Int32))) :
    MetFree l x (head1 (Jvm.Cond.code x code maxLocals ret :: ws) room_1) (fun a U => a = #[(.int p0), (.int p1), (.int p2)] ∧ Z.Warmed39 U.vm ∧ U.heap = h0) (fun _ _ _ _ _ => True) (fun _ U o U' => ∃ v L, o = .returned v ∧ Q0 Z p0 p1 p2 fa fb fc fd h0 n0 v U'.heap L ∧ FrameEnd U o U' L room_1.cells room_1.slots) := by
  refine MetFree.of_bodySF (plainFor_of_name pn0) hisR ?_
  intro p e s m args below meth c s₁ Bd hml0 hP hK
  obtain ⟨rfl, hZ, hh⟩ := hP
  have hx := Bd.exec
  have hby := Bd.bytes
  have hml : c.maxLocals = 7 := hml0
  have hown : s.vm.findClass "com/example/rollhaus/rollhaus/scorecard/CardUpperBonusPinLaw" = some m.cls := findClass_of_methodNamed Bd.named
  have hnm := (name_of_methodNamed Bd.named Bd.method).1
  have X0 : Stand p l e room_1 s m #[(.int p0), (.int p1), (.int p2)] below meth c s₁ [] 0 0 := Stand.of_body Bd
  have e0 : s₁.heap = h0 := by rw [← hh, Bd.state]; rfl
  have N0 := Fr.nil n0
  have K0 : Keep h0 h0 [] := Keep.refl h0 _
  refine own_in ?_
  refine own_go (B := s₁.setTop (mkF m 0 #[.val (.int p0), .val (.int p1), .val (.int p2), .unset, .unset, .unset, .unset] [])) (fun t k => castTop (ef0 m p0 p1 p2) k) ?_
  refine own_go (B := s₁.setTop (mkF m 5 #[.val (.int p0), .val (.int p1), .val (.int p2), .val (.int (p0 &&& (3 : Int32))), .unset, .unset, .unset] [(.int (p0 &&& (3 : Int32)))])) (fun t k => ?_) ?_
  · show Steps p.tables e below (s₁.setTop (mkF m 0 #[.val (.int p0), .val (.int p1), .val (.int p2), .unset, .unset, .unset, .unset] [])) t
    refine XS.iloadN X0.here hx rfl (hb hby at_0) rfl ?_
    refine XS.iconst X0.here hx rfl (hb hby at_1) ?_
    refine XS.iand X0.here hx rfl (hb hby at_2) rfl ?_
    refine XS.istoreN X0.here hx rfl (hb hby at_3) rfl (l' := #[.val (.int p0), .val (.int p1), .val (.int p2), .val (.int (p0 &&& (3 : Int32))), .unset, .unset, .unset]) rfl ?_
    show Steps p.tables e below (s₁.setTop (mkF m 4 #[.val (.int p0), .val (.int p1), .val (.int p2), .val (.int (p0 &&& (3 : Int32))), .unset, .unset, .unset] [])) t
    refine XS.iloadN X0.here hx rfl (hb hby at_4) rfl ?_
    exact k
  by_cases hc1 : (p0 &&& (3 : Int32)) = (0 : Int32)
  · skip
    refine own_go (B := s₁.setTop (mkF m 8 #[.val (.int p0), .val (.int p1), .val (.int p2), .val (.int (p0 &&& (3 : Int32))), .unset, .unset, .unset] [])) (fun t k => ?_) ?_
    · show Steps p.tables e below (s₁.setTop (mkF m 5 #[.val (.int p0), .val (.int p1), .val (.int p2), .val (.int (p0 &&& (3 : Int32))), .unset, .unset, .unset] [(.int (p0 &&& (3 : Int32)))])) t
      refine XS.ifNo X0.here hx rfl (hb hby at_5) rfl ((if0 _ _).trans (teq hc1).2) ?_
      exact k
    obtain ⟨T2, X2, e2, st2⟩ := getS2 X0 hx hZ hown (host := "") (Or.inl (hw _ (List.mem_of_getElem? (i := 0) rfl))) Via.refl e0 (S_KNUBBEL_V1.ext O0.2) (g := (mkF m 8 #[.val (.int p0), .val (.int p1), .val (.int p2), .val (.int (p0 &&& (3 : Int32))), .unset, .unset, .unset] [])) rfl (hb hby at_8)
    refine own_go st2 ?_
    show own_Fin p.tables e below (T2.setTop (mkF m 11 #[.val (.int p0), .val (.int p1), .val (.int p2), .val (.int (p0 &&& (3 : Int32))), .unset, .unset, .unset] [(.ref fa)])) _
    refine own_go (B := T2.setTop (mkF m 70 #[.val (.int p0), .val (.int p1), .val (.int p2), .val (.int (p0 &&& (3 : Int32))), .val (.ref fa), .val (.int (0 : Int32)), .val (.int ((61 : Int32) + (p2 &&& (3 : Int32))))] [(.int p1), (.ref fa)])) (fun t k => ?_) ?_
    · show Steps p.tables e below (T2.setTop (mkF m 11 #[.val (.int p0), .val (.int p1), .val (.int p2), .val (.int (p0 &&& (3 : Int32))), .unset, .unset, .unset] [(.ref fa)])) t
      refine XS.astore X2.here hx rfl (hb hby at_11) rfl rfl (l' := #[.val (.int p0), .val (.int p1), .val (.int p2), .val (.int (p0 &&& (3 : Int32))), .val (.ref fa), .unset, .unset]) rfl ?_
      refine XS.iconst X2.here hx rfl (hb hby at_13) ?_
      refine XS.istore X2.here hx rfl (hb hby at_14) rfl (l' := #[.val (.int p0), .val (.int p1), .val (.int p2), .val (.int (p0 &&& (3 : Int32))), .val (.ref fa), .val (.int (0 : Int32)), .unset]) rfl ?_
      refine XS.goto X2.here hx rfl (pc0 := 16) (pc' := 59) rfl (hb hby at_16) (by decide) (by decide) ?_
      show Steps p.tables e below (T2.setTop (mkF m 59 #[.val (.int p0), .val (.int p1), .val (.int p2), .val (.int (p0 &&& (3 : Int32))), .val (.ref fa), .val (.int (0 : Int32)), .unset] [])) t
      refine XS.bipush X2.here hx rfl (hb hby at_59) ?_
      refine XS.iloadN X2.here hx rfl (hb hby at_61) rfl ?_
      refine XS.iconst X2.here hx rfl (hb hby at_62) ?_
      refine XS.iand X2.here hx rfl (hb hby at_63) rfl ?_
      show Steps p.tables e below (T2.setTop (mkF m 64 #[.val (.int p0), .val (.int p1), .val (.int p2), .val (.int (p0 &&& (3 : Int32))), .val (.ref fa), .val (.int (0 : Int32)), .unset] [(.int (p2 &&& (3 : Int32))), (.int (61 : Int32))])) t
      refine XS.iadd X2.here hx rfl (hb hby at_64) rfl ?_
      refine XS.istore X2.here hx rfl (hb hby at_65) rfl (l' := #[.val (.int p0), .val (.int p1), .val (.int p2), .val (.int (p0 &&& (3 : Int32))), .val (.ref fa), .val (.int (0 : Int32)), .val (.int ((61 : Int32) + (p2 &&& (3 : Int32))))]) rfl ?_
      refine XS.aload X2.here hx rfl (hb hby at_67) rfl rfl ?_
      refine XS.iloadN X2.here hx rfl (hb hby at_69) rfl ?_
      exact k
    obtain ⟨cq3, kq3, q3a, q3b, q3c⟩ := isOf hZ e2 E_fa
    obtain ⟨_, _, ⟨T3, L3, k3, n3⟩, -, X3, ⟨Lc3, hQ3, l3, y3, z3⟩, st3⟩ := X2.virtualBack hx (y := (⟨"com/example/rollhaus/rollhaus/scorecard/Card", "upperBonus", "(I)I"⟩ : MethodName)) (z := (⟨"com/example/rollhaus/rollhaus/scorecard/Card", "upperBonus", "(I)I"⟩ : MethodName)) hown (mvT hZ (hw _ (List.mem_of_getElem? (i := 3) rfl))) (mvT hZ (hw _ (List.mem_of_getElem? (i := 4) rfl))) (notFace_of_selects (args := #[]) (mvT hZ (hw _ (List.mem_of_getElem? (i := 6) rfl)))) (mvT hZ (hw _ (List.mem_of_getElem? (i := 6) rfl))) (mvT hZ (hw _ (List.mem_of_getElem? (i := 5) rfl))) (by decide) (backOf (W := 0) (rm1 l Z a0 hw [] fa p1 (0 : Int32) h0 n0 Z0 F_fa) hZ (hw _ (List.mem_of_getElem? (i := 7) rfl)) (hw _ (List.mem_of_getElem? (i := 1) rfl)) (by decide) (by decide)) q3a q3c (g := (mkF m 70 #[.val (.int p0), .val (.int p1), .val (.int p2), .val (.int (p0 &&& (3 : Int32))), .val (.ref fa), .val (.int (0 : Int32)), .val (.int ((61 : Int32) + (p2 &&& (3 : Int32))))] [(.int p1), (.ref fa)])) rfl (by rw [hml]; rfl) (Steps.refl _) (argsL := [(.int p1)]) (rest := []) (lenOf pd0_0 rfl) rfl (by show 2 * 0 + _ ≤ _; exact Nat.le_of_eq rfl) (hb hby at_70) (fun _ _ => ⟨rfl, e2, (by decide : 0 + 0 ≤ _), (by decide : 0 + 0 ≤ _)⟩)
    dsimp only [Pt.U, Pt.locs, Pt.cells, Pt.slots] at X3 l3 y3 z3 st3 hQ3
    subst l3 y3 z3
    obtain ⟨rfl, N3q, e3⟩ := hQ3
    have N3 := Fr.app N0 N3q
    refine own_go (fun _ k => st3.trans k) ?_
    show own_Fin p.tables e below (T3.setTop (mkF m 73 #[.val (.int p0), .val (.int p1), .val (.int p2), .val (.int (p0 &&& (3 : Int32))), .val (.ref fa), .val (.int (0 : Int32)), .val (.int ((61 : Int32) + (p2 &&& (3 : Int32))))] [(.int (if (0 : Int32) = (0 : Int32) then (0 : Int32) else (if p1 < (63 : Int32) then (0 : Int32) else (35 : Int32))))])) _
    refine own_go (B := T3.setTop (mkF m 76 #[.val (.int p0), .val (.int p1), .val (.int p2), .val (.int (p0 &&& (3 : Int32))), .val (.ref fa), .val (.int (0 : Int32)), .val (.int ((61 : Int32) + (p2 &&& (3 : Int32))))] [(.int p1), (.int (0 : Int32)), (.int (if (0 : Int32) = (0 : Int32) then (0 : Int32) else (if p1 < (63 : Int32) then (0 : Int32) else (35 : Int32))))])) (fun t k => ?_) ?_
    · show Steps p.tables e below (T3.setTop (mkF m 73 #[.val (.int p0), .val (.int p1), .val (.int p2), .val (.int (p0 &&& (3 : Int32))), .val (.ref fa), .val (.int (0 : Int32)), .val (.int ((61 : Int32) + (p2 &&& (3 : Int32))))] [(.int (if (0 : Int32) = (0 : Int32) then (0 : Int32) else (if p1 < (63 : Int32) then (0 : Int32) else (35 : Int32))))])) t
      refine XS.iload X3.here hx rfl (hb hby at_73) rfl ?_
      refine XS.iloadN X3.here hx rfl (hb hby at_75) rfl ?_
      exact k
    obtain ⟨_, _, ⟨T4, L4, k4, n4⟩, -, X4, ⟨Lc4, hQ4, l4, y4, z4⟩, st4⟩ := Jvm.LawKit.callS X3 hx (y := (⟨"com/example/rollhaus/rollhaus/scorecard/CardUpperBonusPinLaw", "expected", "(ZI)I"⟩ : MethodName)) hown (mvT hZ (hw _ (List.mem_of_getElem? (i := 10) rfl))) (mvT hZ (hw _ (List.mem_of_getElem? (i := 11) rfl))) (mvT hZ (hw _ (List.mem_of_getElem? (i := 12) rfl))) (mvT hZ (hw _ (List.mem_of_getElem? (i := 13) rfl))) (by decide) (backOf (W := 1) (rm2 l Z a0 hw [] (0 : Int32) p1  h0 n0 Z0 ) hZ (hw _ (List.mem_of_getElem? (i := 13) rfl)) (hw _ (List.mem_of_getElem? (i := 12) rfl)) (by decide) (by decide)) (g := (mkF m 76 #[.val (.int p0), .val (.int p1), .val (.int p2), .val (.int (p0 &&& (3 : Int32))), .val (.ref fa), .val (.int (0 : Int32)), .val (.int ((61 : Int32) + (p2 &&& (3 : Int32))))] [(.int p1), (.int (0 : Int32)), (.int (if (0 : Int32) = (0 : Int32) then (0 : Int32) else (if p1 < (63 : Int32) then (0 : Int32) else (35 : Int32))))])) rfl (by rw [hml]; rfl) (argsL := [(.int (0 : Int32)), (.int p1)]) (rest := [(.int (if (0 : Int32) = (0 : Int32) then (0 : Int32) else (if p1 < (63 : Int32) then (0 : Int32) else (35 : Int32))))]) (lenOf pd0_1 rfl) rfl (by show 2 * 0 + _ ≤ _; exact Nat.le_of_eq rfl) (hb hby at_76) (fun _ _ => ⟨rfl, e3, (by decide : 0 + 0 ≤ _), (by decide : 0 + 0 ≤ _)⟩)
    dsimp only [Pt.U, Pt.locs, Pt.cells, Pt.slots] at X4 l4 y4 z4 st4 hQ4
    subst l4 y4 z4
    obtain ⟨rfl, N4q, e4⟩ := hQ4
    have N4 := Fr.app N3 N4q
    refine own_go (st4) ?_
    show own_Fin p.tables e below (T4.setTop (mkF m 79 #[.val (.int p0), .val (.int p1), .val (.int p2), .val (.int (p0 &&& (3 : Int32))), .val (.ref fa), .val (.int (0 : Int32)), .val (.int ((61 : Int32) + (p2 &&& (3 : Int32))))] [(.int (if (0 : Int32) = (0 : Int32) then (0 : Int32) else (if p1 < (63 : Int32) then (0 : Int32) else (35 : Int32)))), (.int (if (0 : Int32) = (0 : Int32) then (0 : Int32) else (if p1 < (63 : Int32) then (0 : Int32) else (35 : Int32))))])) _
    refine own_go (B := T4.setTop (mkF m 86 #[.val (.int p0), .val (.int p1), .val (.int p2), .val (.int (p0 &&& (3 : Int32))), .val (.ref fa), .val (.int (0 : Int32)), .val (.int ((61 : Int32) + (p2 &&& (3 : Int32))))] [(.int ((61 : Int32) + (p2 &&& (3 : Int32)))), (.ref fa)])) (fun t k => ?_) ?_
    · show Steps p.tables e below (T4.setTop (mkF m 79 #[.val (.int p0), .val (.int p1), .val (.int p2), .val (.int (p0 &&& (3 : Int32))), .val (.ref fa), .val (.int (0 : Int32)), .val (.int ((61 : Int32) + (p2 &&& (3 : Int32))))] [(.int (if (0 : Int32) = (0 : Int32) then (0 : Int32) else (if p1 < (63 : Int32) then (0 : Int32) else (35 : Int32)))), (.int (if (0 : Int32) = (0 : Int32) then (0 : Int32) else (if p1 < (63 : Int32) then (0 : Int32) else (35 : Int32))))])) t
      refine XS.icmpNo X4.here hx rfl (hb hby at_79) rfl (teq (rfl : (if (0 : Int32) = (0 : Int32) then (0 : Int32) else (if p1 < (63 : Int32) then (0 : Int32) else (35 : Int32))) = (if (0 : Int32) = (0 : Int32) then (0 : Int32) else (if p1 < (63 : Int32) then (0 : Int32) else (35 : Int32))))).2 ?_
      refine XS.aload X4.here hx rfl (hb hby at_82) rfl rfl ?_
      refine XS.iload X4.here hx rfl (hb hby at_84) rfl ?_
      exact k
    obtain ⟨cq5, kq5, q5a, q5b, q5c⟩ := isOf hZ e4 E_fa
    obtain ⟨_, _, ⟨T5, L5, k5, n5⟩, -, X5, ⟨Lc5, hQ5, l5, y5, z5⟩, st5⟩ := X4.virtualBack hx (y := (⟨"com/example/rollhaus/rollhaus/scorecard/Card", "upperBonus", "(I)I"⟩ : MethodName)) (z := (⟨"com/example/rollhaus/rollhaus/scorecard/Card", "upperBonus", "(I)I"⟩ : MethodName)) hown (mvT hZ (hw _ (List.mem_of_getElem? (i := 3) rfl))) (mvT hZ (hw _ (List.mem_of_getElem? (i := 4) rfl))) (notFace_of_selects (args := #[]) (mvT hZ (hw _ (List.mem_of_getElem? (i := 6) rfl)))) (mvT hZ (hw _ (List.mem_of_getElem? (i := 6) rfl))) (mvT hZ (hw _ (List.mem_of_getElem? (i := 5) rfl))) (by decide) (backOf (W := 0) (rm1 l Z a0 hw [] fa ((61 : Int32) + (p2 &&& (3 : Int32))) (0 : Int32) h0 n0 Z0 F_fa) hZ (hw _ (List.mem_of_getElem? (i := 7) rfl)) (hw _ (List.mem_of_getElem? (i := 1) rfl)) (by decide) (by decide)) q5a q5c (g := (mkF m 86 #[.val (.int p0), .val (.int p1), .val (.int p2), .val (.int (p0 &&& (3 : Int32))), .val (.ref fa), .val (.int (0 : Int32)), .val (.int ((61 : Int32) + (p2 &&& (3 : Int32))))] [(.int ((61 : Int32) + (p2 &&& (3 : Int32)))), (.ref fa)])) rfl (by rw [hml]; rfl) (Steps.refl _) (argsL := [(.int ((61 : Int32) + (p2 &&& (3 : Int32))))]) (rest := []) (lenOf pd0_0 rfl) rfl (by show 2 * 0 + _ ≤ _; exact Nat.le_of_eq rfl) (hb hby at_86) (fun _ _ => ⟨rfl, e4, (by decide : 0 + 0 ≤ _), (by decide : 0 + 0 ≤ _)⟩)
    dsimp only [Pt.U, Pt.locs, Pt.cells, Pt.slots] at X5 l5 y5 z5 st5 hQ5
    subst l5 y5 z5
    obtain ⟨rfl, N5q, e5⟩ := hQ5
    have N5 := Fr.app N4 N5q
    refine own_go (fun _ k => st5.trans k) ?_
    show own_Fin p.tables e below (T5.setTop (mkF m 89 #[.val (.int p0), .val (.int p1), .val (.int p2), .val (.int (p0 &&& (3 : Int32))), .val (.ref fa), .val (.int (0 : Int32)), .val (.int ((61 : Int32) + (p2 &&& (3 : Int32))))] [(.int (if (0 : Int32) = (0 : Int32) then (0 : Int32) else (if ((61 : Int32) + (p2 &&& (3 : Int32))) < (63 : Int32) then (0 : Int32) else (35 : Int32))))])) _
    refine own_go (B := T5.setTop (mkF m 93 #[.val (.int p0), .val (.int p1), .val (.int p2), .val (.int (p0 &&& (3 : Int32))), .val (.ref fa), .val (.int (0 : Int32)), .val (.int ((61 : Int32) + (p2 &&& (3 : Int32))))] [(.int ((61 : Int32) + (p2 &&& (3 : Int32)))), (.int (0 : Int32)), (.int (if (0 : Int32) = (0 : Int32) then (0 : Int32) else (if ((61 : Int32) + (p2 &&& (3 : Int32))) < (63 : Int32) then (0 : Int32) else (35 : Int32))))])) (fun t k => ?_) ?_
    · show Steps p.tables e below (T5.setTop (mkF m 89 #[.val (.int p0), .val (.int p1), .val (.int p2), .val (.int (p0 &&& (3 : Int32))), .val (.ref fa), .val (.int (0 : Int32)), .val (.int ((61 : Int32) + (p2 &&& (3 : Int32))))] [(.int (if (0 : Int32) = (0 : Int32) then (0 : Int32) else (if ((61 : Int32) + (p2 &&& (3 : Int32))) < (63 : Int32) then (0 : Int32) else (35 : Int32))))])) t
      refine XS.iload X5.here hx rfl (hb hby at_89) rfl ?_
      refine XS.iload X5.here hx rfl (hb hby at_91) rfl ?_
      exact k
    obtain ⟨_, _, ⟨T6, L6, k6, n6⟩, -, X6, ⟨Lc6, hQ6, l6, y6, z6⟩, st6⟩ := Jvm.LawKit.callS X5 hx (y := (⟨"com/example/rollhaus/rollhaus/scorecard/CardUpperBonusPinLaw", "expected", "(ZI)I"⟩ : MethodName)) hown (mvT hZ (hw _ (List.mem_of_getElem? (i := 10) rfl))) (mvT hZ (hw _ (List.mem_of_getElem? (i := 11) rfl))) (mvT hZ (hw _ (List.mem_of_getElem? (i := 12) rfl))) (mvT hZ (hw _ (List.mem_of_getElem? (i := 13) rfl))) (by decide) (backOf (W := 1) (rm2 l Z a0 hw [] (0 : Int32) ((61 : Int32) + (p2 &&& (3 : Int32)))  h0 n0 Z0 ) hZ (hw _ (List.mem_of_getElem? (i := 13) rfl)) (hw _ (List.mem_of_getElem? (i := 12) rfl)) (by decide) (by decide)) (g := (mkF m 93 #[.val (.int p0), .val (.int p1), .val (.int p2), .val (.int (p0 &&& (3 : Int32))), .val (.ref fa), .val (.int (0 : Int32)), .val (.int ((61 : Int32) + (p2 &&& (3 : Int32))))] [(.int ((61 : Int32) + (p2 &&& (3 : Int32)))), (.int (0 : Int32)), (.int (if (0 : Int32) = (0 : Int32) then (0 : Int32) else (if ((61 : Int32) + (p2 &&& (3 : Int32))) < (63 : Int32) then (0 : Int32) else (35 : Int32))))])) rfl (by rw [hml]; rfl) (argsL := [(.int (0 : Int32)), (.int ((61 : Int32) + (p2 &&& (3 : Int32))))]) (rest := [(.int (if (0 : Int32) = (0 : Int32) then (0 : Int32) else (if ((61 : Int32) + (p2 &&& (3 : Int32))) < (63 : Int32) then (0 : Int32) else (35 : Int32))))]) (lenOf pd0_1 rfl) rfl (by show 2 * 0 + _ ≤ _; exact Nat.le_of_eq rfl) (hb hby at_93) (fun _ _ => ⟨rfl, e5, (by decide : 0 + 0 ≤ _), (by decide : 0 + 0 ≤ _)⟩)
    dsimp only [Pt.U, Pt.locs, Pt.cells, Pt.slots] at X6 l6 y6 z6 st6 hQ6
    subst l6 y6 z6
    obtain ⟨rfl, N6q, e6⟩ := hQ6
    have N6 := Fr.app N5 N6q
    refine own_go (st6) ?_
    show own_Fin p.tables e below (T6.setTop (mkF m 96 #[.val (.int p0), .val (.int p1), .val (.int p2), .val (.int (p0 &&& (3 : Int32))), .val (.ref fa), .val (.int (0 : Int32)), .val (.int ((61 : Int32) + (p2 &&& (3 : Int32))))] [(.int (if (0 : Int32) = (0 : Int32) then (0 : Int32) else (if ((61 : Int32) + (p2 &&& (3 : Int32))) < (63 : Int32) then (0 : Int32) else (35 : Int32)))), (.int (if (0 : Int32) = (0 : Int32) then (0 : Int32) else (if ((61 : Int32) + (p2 &&& (3 : Int32))) < (63 : Int32) then (0 : Int32) else (35 : Int32))))])) _
    refine own_go (B := T6.setTop (mkF m 104 #[.val (.int p0), .val (.int p1), .val (.int p2), .val (.int (p0 &&& (3 : Int32))), .val (.ref fa), .val (.int (0 : Int32)), .val (.int ((61 : Int32) + (p2 &&& (3 : Int32))))] [(.int (1 : Int32))])) (fun t k => ?_) ?_
    · show Steps p.tables e below (T6.setTop (mkF m 96 #[.val (.int p0), .val (.int p1), .val (.int p2), .val (.int (p0 &&& (3 : Int32))), .val (.ref fa), .val (.int (0 : Int32)), .val (.int ((61 : Int32) + (p2 &&& (3 : Int32))))] [(.int (if (0 : Int32) = (0 : Int32) then (0 : Int32) else (if ((61 : Int32) + (p2 &&& (3 : Int32))) < (63 : Int32) then (0 : Int32) else (35 : Int32)))), (.int (if (0 : Int32) = (0 : Int32) then (0 : Int32) else (if ((61 : Int32) + (p2 &&& (3 : Int32))) < (63 : Int32) then (0 : Int32) else (35 : Int32))))])) t
      refine XS.icmpNo X6.here hx rfl (hb hby at_96) rfl (teq (rfl : (if (0 : Int32) = (0 : Int32) then (0 : Int32) else (if ((61 : Int32) + (p2 &&& (3 : Int32))) < (63 : Int32) then (0 : Int32) else (35 : Int32))) = (if (0 : Int32) = (0 : Int32) then (0 : Int32) else (if ((61 : Int32) + (p2 &&& (3 : Int32))) < (63 : Int32) then (0 : Int32) else (35 : Int32))))).2 ?_
      refine XS.iconst X6.here hx rfl (hb hby at_99) ?_
      refine XS.goto X6.here hx rfl (pc0 := 100) (pc' := 104) rfl (hb hby at_100) (by decide) (by decide) ?_
      exact k
    obtain ⟨fs, hr, hrun, hended, hW, hsame⟩ := X6.leave (v := some (.int (1 : Int32))) (fun h => by rw [Bd.returns] at h; cases h)
    refine ⟨_, _, ?_, hrun, hended, _, _, rfl, ?_, ⟨_, rfl⟩, hW, hsame.mono (by decide) (by decide)⟩
    · exact retOut X6 hx (t := .boolean) Bd.returns rfl (Or.inl ⟨rfl, by simp, _, rfl⟩) (hb hby at_104) hr
    · show Q0 Z p0 p1 p2 fa fb fc fd h0 n0 _ T6.heap _
      rw [e6]
      exact ⟨rfl, N6⟩
  · skip
    refine own_go (B := s₁.setTop (mkF m 21 #[.val (.int p0), .val (.int p1), .val (.int p2), .val (.int (p0 &&& (3 : Int32))), .unset, .unset, .unset] [(.int (1 : Int32)), (.int (p0 &&& (3 : Int32)))])) (fun t k => ?_) ?_
    · show Steps p.tables e below (s₁.setTop (mkF m 5 #[.val (.int p0), .val (.int p1), .val (.int p2), .val (.int (p0 &&& (3 : Int32))), .unset, .unset, .unset] [(.int (p0 &&& (3 : Int32)))])) t
      refine XS.ifYes X0.here hx rfl (pc0 := 5) (pc' := 19) rfl (hb hby at_5) rfl ((if0 _ _).trans (feq hc1).2) (by decide) (by decide) ?_
      refine XS.iloadN X0.here hx rfl (hb hby at_19) rfl ?_
      refine XS.iconst X0.here hx rfl (hb hby at_20) ?_
      exact k
    by_cases hc8 : (p0 &&& (3 : Int32)) = (1 : Int32)
    · skip
      refine own_go (B := s₁.setTop (mkF m 24 #[.val (.int p0), .val (.int p1), .val (.int p2), .val (.int (p0 &&& (3 : Int32))), .unset, .unset, .unset] [])) (fun t k => ?_) ?_
      · show Steps p.tables e below (s₁.setTop (mkF m 21 #[.val (.int p0), .val (.int p1), .val (.int p2), .val (.int (p0 &&& (3 : Int32))), .unset, .unset, .unset] [(.int (1 : Int32)), (.int (p0 &&& (3 : Int32)))])) t
        refine XS.icmpNo X0.here hx rfl (hb hby at_21) rfl (teq hc8).2 ?_
        exact k
      obtain ⟨T9, X9, e9, st9⟩ := getS2 X0 hx hZ hown (host := "") (Or.inl (hw _ (List.mem_of_getElem? (i := 14) rfl))) Via.refl e0 (S_KNUBBEL_V2.ext O0.2) (g := (mkF m 24 #[.val (.int p0), .val (.int p1), .val (.int p2), .val (.int (p0 &&& (3 : Int32))), .unset, .unset, .unset] [])) rfl (hb hby at_24)
      refine own_go st9 ?_
      show own_Fin p.tables e below (T9.setTop (mkF m 27 #[.val (.int p0), .val (.int p1), .val (.int p2), .val (.int (p0 &&& (3 : Int32))), .unset, .unset, .unset] [(.ref fb)])) _
      refine own_go (B := T9.setTop (mkF m 70 #[.val (.int p0), .val (.int p1), .val (.int p2), .val (.int (p0 &&& (3 : Int32))), .val (.ref fb), .val (.int (0 : Int32)), .val (.int ((61 : Int32) + (p2 &&& (3 : Int32))))] [(.int p1), (.ref fb)])) (fun t k => ?_) ?_
      · show Steps p.tables e below (T9.setTop (mkF m 27 #[.val (.int p0), .val (.int p1), .val (.int p2), .val (.int (p0 &&& (3 : Int32))), .unset, .unset, .unset] [(.ref fb)])) t
        refine XS.astore X9.here hx rfl (hb hby at_27) rfl rfl (l' := #[.val (.int p0), .val (.int p1), .val (.int p2), .val (.int (p0 &&& (3 : Int32))), .val (.ref fb), .unset, .unset]) rfl ?_
        refine XS.iconst X9.here hx rfl (hb hby at_29) ?_
        refine XS.istore X9.here hx rfl (hb hby at_30) rfl (l' := #[.val (.int p0), .val (.int p1), .val (.int p2), .val (.int (p0 &&& (3 : Int32))), .val (.ref fb), .val (.int (0 : Int32)), .unset]) rfl ?_
        refine XS.goto X9.here hx rfl (pc0 := 32) (pc' := 59) rfl (hb hby at_32) (by decide) (by decide) ?_
        show Steps p.tables e below (T9.setTop (mkF m 59 #[.val (.int p0), .val (.int p1), .val (.int p2), .val (.int (p0 &&& (3 : Int32))), .val (.ref fb), .val (.int (0 : Int32)), .unset] [])) t
        refine XS.bipush X9.here hx rfl (hb hby at_59) ?_
        refine XS.iloadN X9.here hx rfl (hb hby at_61) rfl ?_
        refine XS.iconst X9.here hx rfl (hb hby at_62) ?_
        refine XS.iand X9.here hx rfl (hb hby at_63) rfl ?_
        show Steps p.tables e below (T9.setTop (mkF m 64 #[.val (.int p0), .val (.int p1), .val (.int p2), .val (.int (p0 &&& (3 : Int32))), .val (.ref fb), .val (.int (0 : Int32)), .unset] [(.int (p2 &&& (3 : Int32))), (.int (61 : Int32))])) t
        refine XS.iadd X9.here hx rfl (hb hby at_64) rfl ?_
        refine XS.istore X9.here hx rfl (hb hby at_65) rfl (l' := #[.val (.int p0), .val (.int p1), .val (.int p2), .val (.int (p0 &&& (3 : Int32))), .val (.ref fb), .val (.int (0 : Int32)), .val (.int ((61 : Int32) + (p2 &&& (3 : Int32))))]) rfl ?_
        refine XS.aload X9.here hx rfl (hb hby at_67) rfl rfl ?_
        refine XS.iloadN X9.here hx rfl (hb hby at_69) rfl ?_
        exact k
      obtain ⟨cq10, kq10, q10a, q10b, q10c⟩ := isOf hZ e9 E_fb
      obtain ⟨_, _, ⟨T10, L10, k10, n10⟩, -, X10, ⟨Lc10, hQ10, l10, y10, z10⟩, st10⟩ := X9.virtualBack hx (y := (⟨"com/example/rollhaus/rollhaus/scorecard/Card", "upperBonus", "(I)I"⟩ : MethodName)) (z := (⟨"com/example/rollhaus/rollhaus/scorecard/Card", "upperBonus", "(I)I"⟩ : MethodName)) hown (mvT hZ (hw _ (List.mem_of_getElem? (i := 3) rfl))) (mvT hZ (hw _ (List.mem_of_getElem? (i := 4) rfl))) (notFace_of_selects (args := #[]) (mvT hZ (hw _ (List.mem_of_getElem? (i := 6) rfl)))) (mvT hZ (hw _ (List.mem_of_getElem? (i := 6) rfl))) (mvT hZ (hw _ (List.mem_of_getElem? (i := 5) rfl))) (by decide) (backOf (W := 0) (rm1 l Z a0 hw [] fb p1 (0 : Int32) h0 n0 Z0 F_fb) hZ (hw _ (List.mem_of_getElem? (i := 7) rfl)) (hw _ (List.mem_of_getElem? (i := 1) rfl)) (by decide) (by decide)) q10a q10c (g := (mkF m 70 #[.val (.int p0), .val (.int p1), .val (.int p2), .val (.int (p0 &&& (3 : Int32))), .val (.ref fb), .val (.int (0 : Int32)), .val (.int ((61 : Int32) + (p2 &&& (3 : Int32))))] [(.int p1), (.ref fb)])) rfl (by rw [hml]; rfl) (Steps.refl _) (argsL := [(.int p1)]) (rest := []) (lenOf pd0_0 rfl) rfl (by show 2 * 0 + _ ≤ _; exact Nat.le_of_eq rfl) (hb hby at_70) (fun _ _ => ⟨rfl, e9, (by decide : 0 + 0 ≤ _), (by decide : 0 + 0 ≤ _)⟩)
      dsimp only [Pt.U, Pt.locs, Pt.cells, Pt.slots] at X10 l10 y10 z10 st10 hQ10
      subst l10 y10 z10
      obtain ⟨rfl, N10q, e10⟩ := hQ10
      have N10 := Fr.app N0 N10q
      refine own_go (fun _ k => st10.trans k) ?_
      show own_Fin p.tables e below (T10.setTop (mkF m 73 #[.val (.int p0), .val (.int p1), .val (.int p2), .val (.int (p0 &&& (3 : Int32))), .val (.ref fb), .val (.int (0 : Int32)), .val (.int ((61 : Int32) + (p2 &&& (3 : Int32))))] [(.int (if (0 : Int32) = (0 : Int32) then (0 : Int32) else (if p1 < (63 : Int32) then (0 : Int32) else (35 : Int32))))])) _
      refine own_go (B := T10.setTop (mkF m 76 #[.val (.int p0), .val (.int p1), .val (.int p2), .val (.int (p0 &&& (3 : Int32))), .val (.ref fb), .val (.int (0 : Int32)), .val (.int ((61 : Int32) + (p2 &&& (3 : Int32))))] [(.int p1), (.int (0 : Int32)), (.int (if (0 : Int32) = (0 : Int32) then (0 : Int32) else (if p1 < (63 : Int32) then (0 : Int32) else (35 : Int32))))])) (fun t k => ?_) ?_
      · show Steps p.tables e below (T10.setTop (mkF m 73 #[.val (.int p0), .val (.int p1), .val (.int p2), .val (.int (p0 &&& (3 : Int32))), .val (.ref fb), .val (.int (0 : Int32)), .val (.int ((61 : Int32) + (p2 &&& (3 : Int32))))] [(.int (if (0 : Int32) = (0 : Int32) then (0 : Int32) else (if p1 < (63 : Int32) then (0 : Int32) else (35 : Int32))))])) t
        refine XS.iload X10.here hx rfl (hb hby at_73) rfl ?_
        refine XS.iloadN X10.here hx rfl (hb hby at_75) rfl ?_
        exact k
      obtain ⟨_, _, ⟨T11, L11, k11, n11⟩, -, X11, ⟨Lc11, hQ11, l11, y11, z11⟩, st11⟩ := Jvm.LawKit.callS X10 hx (y := (⟨"com/example/rollhaus/rollhaus/scorecard/CardUpperBonusPinLaw", "expected", "(ZI)I"⟩ : MethodName)) hown (mvT hZ (hw _ (List.mem_of_getElem? (i := 10) rfl))) (mvT hZ (hw _ (List.mem_of_getElem? (i := 11) rfl))) (mvT hZ (hw _ (List.mem_of_getElem? (i := 12) rfl))) (mvT hZ (hw _ (List.mem_of_getElem? (i := 13) rfl))) (by decide) (backOf (W := 1) (rm2 l Z a0 hw [] (0 : Int32) p1  h0 n0 Z0 ) hZ (hw _ (List.mem_of_getElem? (i := 13) rfl)) (hw _ (List.mem_of_getElem? (i := 12) rfl)) (by decide) (by decide)) (g := (mkF m 76 #[.val (.int p0), .val (.int p1), .val (.int p2), .val (.int (p0 &&& (3 : Int32))), .val (.ref fb), .val (.int (0 : Int32)), .val (.int ((61 : Int32) + (p2 &&& (3 : Int32))))] [(.int p1), (.int (0 : Int32)), (.int (if (0 : Int32) = (0 : Int32) then (0 : Int32) else (if p1 < (63 : Int32) then (0 : Int32) else (35 : Int32))))])) rfl (by rw [hml]; rfl) (argsL := [(.int (0 : Int32)), (.int p1)]) (rest := [(.int (if (0 : Int32) = (0 : Int32) then (0 : Int32) else (if p1 < (63 : Int32) then (0 : Int32) else (35 : Int32))))]) (lenOf pd0_1 rfl) rfl (by show 2 * 0 + _ ≤ _; exact Nat.le_of_eq rfl) (hb hby at_76) (fun _ _ => ⟨rfl, e10, (by decide : 0 + 0 ≤ _), (by decide : 0 + 0 ≤ _)⟩)
      dsimp only [Pt.U, Pt.locs, Pt.cells, Pt.slots] at X11 l11 y11 z11 st11 hQ11
      subst l11 y11 z11
      obtain ⟨rfl, N11q, e11⟩ := hQ11
      have N11 := Fr.app N10 N11q
      refine own_go (st11) ?_
      show own_Fin p.tables e below (T11.setTop (mkF m 79 #[.val (.int p0), .val (.int p1), .val (.int p2), .val (.int (p0 &&& (3 : Int32))), .val (.ref fb), .val (.int (0 : Int32)), .val (.int ((61 : Int32) + (p2 &&& (3 : Int32))))] [(.int (if (0 : Int32) = (0 : Int32) then (0 : Int32) else (if p1 < (63 : Int32) then (0 : Int32) else (35 : Int32)))), (.int (if (0 : Int32) = (0 : Int32) then (0 : Int32) else (if p1 < (63 : Int32) then (0 : Int32) else (35 : Int32))))])) _
      refine own_go (B := T11.setTop (mkF m 86 #[.val (.int p0), .val (.int p1), .val (.int p2), .val (.int (p0 &&& (3 : Int32))), .val (.ref fb), .val (.int (0 : Int32)), .val (.int ((61 : Int32) + (p2 &&& (3 : Int32))))] [(.int ((61 : Int32) + (p2 &&& (3 : Int32)))), (.ref fb)])) (fun t k => ?_) ?_
      · show Steps p.tables e below (T11.setTop (mkF m 79 #[.val (.int p0), .val (.int p1), .val (.int p2), .val (.int (p0 &&& (3 : Int32))), .val (.ref fb), .val (.int (0 : Int32)), .val (.int ((61 : Int32) + (p2 &&& (3 : Int32))))] [(.int (if (0 : Int32) = (0 : Int32) then (0 : Int32) else (if p1 < (63 : Int32) then (0 : Int32) else (35 : Int32)))), (.int (if (0 : Int32) = (0 : Int32) then (0 : Int32) else (if p1 < (63 : Int32) then (0 : Int32) else (35 : Int32))))])) t
        refine XS.icmpNo X11.here hx rfl (hb hby at_79) rfl (teq (rfl : (if (0 : Int32) = (0 : Int32) then (0 : Int32) else (if p1 < (63 : Int32) then (0 : Int32) else (35 : Int32))) = (if (0 : Int32) = (0 : Int32) then (0 : Int32) else (if p1 < (63 : Int32) then (0 : Int32) else (35 : Int32))))).2 ?_
        refine XS.aload X11.here hx rfl (hb hby at_82) rfl rfl ?_
        refine XS.iload X11.here hx rfl (hb hby at_84) rfl ?_
        exact k
      obtain ⟨cq12, kq12, q12a, q12b, q12c⟩ := isOf hZ e11 E_fb
      obtain ⟨_, _, ⟨T12, L12, k12, n12⟩, -, X12, ⟨Lc12, hQ12, l12, y12, z12⟩, st12⟩ := X11.virtualBack hx (y := (⟨"com/example/rollhaus/rollhaus/scorecard/Card", "upperBonus", "(I)I"⟩ : MethodName)) (z := (⟨"com/example/rollhaus/rollhaus/scorecard/Card", "upperBonus", "(I)I"⟩ : MethodName)) hown (mvT hZ (hw _ (List.mem_of_getElem? (i := 3) rfl))) (mvT hZ (hw _ (List.mem_of_getElem? (i := 4) rfl))) (notFace_of_selects (args := #[]) (mvT hZ (hw _ (List.mem_of_getElem? (i := 6) rfl)))) (mvT hZ (hw _ (List.mem_of_getElem? (i := 6) rfl))) (mvT hZ (hw _ (List.mem_of_getElem? (i := 5) rfl))) (by decide) (backOf (W := 0) (rm1 l Z a0 hw [] fb ((61 : Int32) + (p2 &&& (3 : Int32))) (0 : Int32) h0 n0 Z0 F_fb) hZ (hw _ (List.mem_of_getElem? (i := 7) rfl)) (hw _ (List.mem_of_getElem? (i := 1) rfl)) (by decide) (by decide)) q12a q12c (g := (mkF m 86 #[.val (.int p0), .val (.int p1), .val (.int p2), .val (.int (p0 &&& (3 : Int32))), .val (.ref fb), .val (.int (0 : Int32)), .val (.int ((61 : Int32) + (p2 &&& (3 : Int32))))] [(.int ((61 : Int32) + (p2 &&& (3 : Int32)))), (.ref fb)])) rfl (by rw [hml]; rfl) (Steps.refl _) (argsL := [(.int ((61 : Int32) + (p2 &&& (3 : Int32))))]) (rest := []) (lenOf pd0_0 rfl) rfl (by show 2 * 0 + _ ≤ _; exact Nat.le_of_eq rfl) (hb hby at_86) (fun _ _ => ⟨rfl, e11, (by decide : 0 + 0 ≤ _), (by decide : 0 + 0 ≤ _)⟩)
      dsimp only [Pt.U, Pt.locs, Pt.cells, Pt.slots] at X12 l12 y12 z12 st12 hQ12
      subst l12 y12 z12
      obtain ⟨rfl, N12q, e12⟩ := hQ12
      have N12 := Fr.app N11 N12q
      refine own_go (fun _ k => st12.trans k) ?_
      show own_Fin p.tables e below (T12.setTop (mkF m 89 #[.val (.int p0), .val (.int p1), .val (.int p2), .val (.int (p0 &&& (3 : Int32))), .val (.ref fb), .val (.int (0 : Int32)), .val (.int ((61 : Int32) + (p2 &&& (3 : Int32))))] [(.int (if (0 : Int32) = (0 : Int32) then (0 : Int32) else (if ((61 : Int32) + (p2 &&& (3 : Int32))) < (63 : Int32) then (0 : Int32) else (35 : Int32))))])) _
      refine own_go (B := T12.setTop (mkF m 93 #[.val (.int p0), .val (.int p1), .val (.int p2), .val (.int (p0 &&& (3 : Int32))), .val (.ref fb), .val (.int (0 : Int32)), .val (.int ((61 : Int32) + (p2 &&& (3 : Int32))))] [(.int ((61 : Int32) + (p2 &&& (3 : Int32)))), (.int (0 : Int32)), (.int (if (0 : Int32) = (0 : Int32) then (0 : Int32) else (if ((61 : Int32) + (p2 &&& (3 : Int32))) < (63 : Int32) then (0 : Int32) else (35 : Int32))))])) (fun t k => ?_) ?_
      · show Steps p.tables e below (T12.setTop (mkF m 89 #[.val (.int p0), .val (.int p1), .val (.int p2), .val (.int (p0 &&& (3 : Int32))), .val (.ref fb), .val (.int (0 : Int32)), .val (.int ((61 : Int32) + (p2 &&& (3 : Int32))))] [(.int (if (0 : Int32) = (0 : Int32) then (0 : Int32) else (if ((61 : Int32) + (p2 &&& (3 : Int32))) < (63 : Int32) then (0 : Int32) else (35 : Int32))))])) t
        refine XS.iload X12.here hx rfl (hb hby at_89) rfl ?_
        refine XS.iload X12.here hx rfl (hb hby at_91) rfl ?_
        exact k
      obtain ⟨_, _, ⟨T13, L13, k13, n13⟩, -, X13, ⟨Lc13, hQ13, l13, y13, z13⟩, st13⟩ := Jvm.LawKit.callS X12 hx (y := (⟨"com/example/rollhaus/rollhaus/scorecard/CardUpperBonusPinLaw", "expected", "(ZI)I"⟩ : MethodName)) hown (mvT hZ (hw _ (List.mem_of_getElem? (i := 10) rfl))) (mvT hZ (hw _ (List.mem_of_getElem? (i := 11) rfl))) (mvT hZ (hw _ (List.mem_of_getElem? (i := 12) rfl))) (mvT hZ (hw _ (List.mem_of_getElem? (i := 13) rfl))) (by decide) (backOf (W := 1) (rm2 l Z a0 hw [] (0 : Int32) ((61 : Int32) + (p2 &&& (3 : Int32)))  h0 n0 Z0 ) hZ (hw _ (List.mem_of_getElem? (i := 13) rfl)) (hw _ (List.mem_of_getElem? (i := 12) rfl)) (by decide) (by decide)) (g := (mkF m 93 #[.val (.int p0), .val (.int p1), .val (.int p2), .val (.int (p0 &&& (3 : Int32))), .val (.ref fb), .val (.int (0 : Int32)), .val (.int ((61 : Int32) + (p2 &&& (3 : Int32))))] [(.int ((61 : Int32) + (p2 &&& (3 : Int32)))), (.int (0 : Int32)), (.int (if (0 : Int32) = (0 : Int32) then (0 : Int32) else (if ((61 : Int32) + (p2 &&& (3 : Int32))) < (63 : Int32) then (0 : Int32) else (35 : Int32))))])) rfl (by rw [hml]; rfl) (argsL := [(.int (0 : Int32)), (.int ((61 : Int32) + (p2 &&& (3 : Int32))))]) (rest := [(.int (if (0 : Int32) = (0 : Int32) then (0 : Int32) else (if ((61 : Int32) + (p2 &&& (3 : Int32))) < (63 : Int32) then (0 : Int32) else (35 : Int32))))]) (lenOf pd0_1 rfl) rfl (by show 2 * 0 + _ ≤ _; exact Nat.le_of_eq rfl) (hb hby at_93) (fun _ _ => ⟨rfl, e12, (by decide : 0 + 0 ≤ _), (by decide : 0 + 0 ≤ _)⟩)
      dsimp only [Pt.U, Pt.locs, Pt.cells, Pt.slots] at X13 l13 y13 z13 st13 hQ13
      subst l13 y13 z13
      obtain ⟨rfl, N13q, e13⟩ := hQ13
      have N13 := Fr.app N12 N13q
      refine own_go (st13) ?_
      show own_Fin p.tables e below (T13.setTop (mkF m 96 #[.val (.int p0), .val (.int p1), .val (.int p2), .val (.int (p0 &&& (3 : Int32))), .val (.ref fb), .val (.int (0 : Int32)), .val (.int ((61 : Int32) + (p2 &&& (3 : Int32))))] [(.int (if (0 : Int32) = (0 : Int32) then (0 : Int32) else (if ((61 : Int32) + (p2 &&& (3 : Int32))) < (63 : Int32) then (0 : Int32) else (35 : Int32)))), (.int (if (0 : Int32) = (0 : Int32) then (0 : Int32) else (if ((61 : Int32) + (p2 &&& (3 : Int32))) < (63 : Int32) then (0 : Int32) else (35 : Int32))))])) _
      refine own_go (B := T13.setTop (mkF m 104 #[.val (.int p0), .val (.int p1), .val (.int p2), .val (.int (p0 &&& (3 : Int32))), .val (.ref fb), .val (.int (0 : Int32)), .val (.int ((61 : Int32) + (p2 &&& (3 : Int32))))] [(.int (1 : Int32))])) (fun t k => ?_) ?_
      · show Steps p.tables e below (T13.setTop (mkF m 96 #[.val (.int p0), .val (.int p1), .val (.int p2), .val (.int (p0 &&& (3 : Int32))), .val (.ref fb), .val (.int (0 : Int32)), .val (.int ((61 : Int32) + (p2 &&& (3 : Int32))))] [(.int (if (0 : Int32) = (0 : Int32) then (0 : Int32) else (if ((61 : Int32) + (p2 &&& (3 : Int32))) < (63 : Int32) then (0 : Int32) else (35 : Int32)))), (.int (if (0 : Int32) = (0 : Int32) then (0 : Int32) else (if ((61 : Int32) + (p2 &&& (3 : Int32))) < (63 : Int32) then (0 : Int32) else (35 : Int32))))])) t
        refine XS.icmpNo X13.here hx rfl (hb hby at_96) rfl (teq (rfl : (if (0 : Int32) = (0 : Int32) then (0 : Int32) else (if ((61 : Int32) + (p2 &&& (3 : Int32))) < (63 : Int32) then (0 : Int32) else (35 : Int32))) = (if (0 : Int32) = (0 : Int32) then (0 : Int32) else (if ((61 : Int32) + (p2 &&& (3 : Int32))) < (63 : Int32) then (0 : Int32) else (35 : Int32))))).2 ?_
        refine XS.iconst X13.here hx rfl (hb hby at_99) ?_
        refine XS.goto X13.here hx rfl (pc0 := 100) (pc' := 104) rfl (hb hby at_100) (by decide) (by decide) ?_
        exact k
      obtain ⟨fs, hr, hrun, hended, hW, hsame⟩ := X13.leave (v := some (.int (1 : Int32))) (fun h => by rw [Bd.returns] at h; cases h)
      refine ⟨_, _, ?_, hrun, hended, _, _, rfl, ?_, ⟨_, rfl⟩, hW, hsame.mono (by decide) (by decide)⟩
      · exact retOut X13 hx (t := .boolean) Bd.returns rfl (Or.inl ⟨rfl, by simp, _, rfl⟩) (hb hby at_104) hr
      · show Q0 Z p0 p1 p2 fa fb fc fd h0 n0 _ T13.heap _
        rw [e13]
        exact ⟨rfl, N13⟩
    · skip
      refine own_go (B := s₁.setTop (mkF m 37 #[.val (.int p0), .val (.int p1), .val (.int p2), .val (.int (p0 &&& (3 : Int32))), .unset, .unset, .unset] [(.int (2 : Int32)), (.int (p0 &&& (3 : Int32)))])) (fun t k => ?_) ?_
      · show Steps p.tables e below (s₁.setTop (mkF m 21 #[.val (.int p0), .val (.int p1), .val (.int p2), .val (.int (p0 &&& (3 : Int32))), .unset, .unset, .unset] [(.int (1 : Int32)), (.int (p0 &&& (3 : Int32)))])) t
        refine XS.icmpYes X0.here hx rfl (pc0 := 21) (pc' := 35) rfl (hb hby at_21) rfl (feq hc8).2 (by decide) (by decide) ?_
        refine XS.iloadN X0.here hx rfl (hb hby at_35) rfl ?_
        refine XS.iconst X0.here hx rfl (hb hby at_36) ?_
        exact k
      by_cases hc15 : (p0 &&& (3 : Int32)) = (2 : Int32)
      · skip
        refine own_go (B := s₁.setTop (mkF m 40 #[.val (.int p0), .val (.int p1), .val (.int p2), .val (.int (p0 &&& (3 : Int32))), .unset, .unset, .unset] [])) (fun t k => ?_) ?_
        · show Steps p.tables e below (s₁.setTop (mkF m 37 #[.val (.int p0), .val (.int p1), .val (.int p2), .val (.int (p0 &&& (3 : Int32))), .unset, .unset, .unset] [(.int (2 : Int32)), (.int (p0 &&& (3 : Int32)))])) t
          refine XS.icmpNo X0.here hx rfl (hb hby at_37) rfl (teq hc15).2 ?_
          exact k
        obtain ⟨T16, X16, e16, st16⟩ := getS2 X0 hx hZ hown (host := "") (Or.inl (hw _ (List.mem_of_getElem? (i := 18) rfl))) Via.refl e0 (S_KNUBBEL_V3.ext O0.2) (g := (mkF m 40 #[.val (.int p0), .val (.int p1), .val (.int p2), .val (.int (p0 &&& (3 : Int32))), .unset, .unset, .unset] [])) rfl (hb hby at_40)
        refine own_go st16 ?_
        show own_Fin p.tables e below (T16.setTop (mkF m 43 #[.val (.int p0), .val (.int p1), .val (.int p2), .val (.int (p0 &&& (3 : Int32))), .unset, .unset, .unset] [(.ref fd)])) _
        refine own_go (B := T16.setTop (mkF m 70 #[.val (.int p0), .val (.int p1), .val (.int p2), .val (.int (p0 &&& (3 : Int32))), .val (.ref fd), .val (.int (1 : Int32)), .val (.int ((61 : Int32) + (p2 &&& (3 : Int32))))] [(.int p1), (.ref fd)])) (fun t k => ?_) ?_
        · show Steps p.tables e below (T16.setTop (mkF m 43 #[.val (.int p0), .val (.int p1), .val (.int p2), .val (.int (p0 &&& (3 : Int32))), .unset, .unset, .unset] [(.ref fd)])) t
          refine XS.astore X16.here hx rfl (hb hby at_43) rfl rfl (l' := #[.val (.int p0), .val (.int p1), .val (.int p2), .val (.int (p0 &&& (3 : Int32))), .val (.ref fd), .unset, .unset]) rfl ?_
          refine XS.iconst X16.here hx rfl (hb hby at_45) ?_
          refine XS.istore X16.here hx rfl (hb hby at_46) rfl (l' := #[.val (.int p0), .val (.int p1), .val (.int p2), .val (.int (p0 &&& (3 : Int32))), .val (.ref fd), .val (.int (1 : Int32)), .unset]) rfl ?_
          refine XS.goto X16.here hx rfl (pc0 := 48) (pc' := 59) rfl (hb hby at_48) (by decide) (by decide) ?_
          show Steps p.tables e below (T16.setTop (mkF m 59 #[.val (.int p0), .val (.int p1), .val (.int p2), .val (.int (p0 &&& (3 : Int32))), .val (.ref fd), .val (.int (1 : Int32)), .unset] [])) t
          refine XS.bipush X16.here hx rfl (hb hby at_59) ?_
          refine XS.iloadN X16.here hx rfl (hb hby at_61) rfl ?_
          refine XS.iconst X16.here hx rfl (hb hby at_62) ?_
          refine XS.iand X16.here hx rfl (hb hby at_63) rfl ?_
          show Steps p.tables e below (T16.setTop (mkF m 64 #[.val (.int p0), .val (.int p1), .val (.int p2), .val (.int (p0 &&& (3 : Int32))), .val (.ref fd), .val (.int (1 : Int32)), .unset] [(.int (p2 &&& (3 : Int32))), (.int (61 : Int32))])) t
          refine XS.iadd X16.here hx rfl (hb hby at_64) rfl ?_
          refine XS.istore X16.here hx rfl (hb hby at_65) rfl (l' := #[.val (.int p0), .val (.int p1), .val (.int p2), .val (.int (p0 &&& (3 : Int32))), .val (.ref fd), .val (.int (1 : Int32)), .val (.int ((61 : Int32) + (p2 &&& (3 : Int32))))]) rfl ?_
          refine XS.aload X16.here hx rfl (hb hby at_67) rfl rfl ?_
          refine XS.iloadN X16.here hx rfl (hb hby at_69) rfl ?_
          exact k
        obtain ⟨cq17, kq17, q17a, q17b, q17c⟩ := isOf hZ e16 E_fd
        obtain ⟨_, _, ⟨T17, L17, k17, n17⟩, -, X17, ⟨Lc17, hQ17, l17, y17, z17⟩, st17⟩ := X16.virtualBack hx (y := (⟨"com/example/rollhaus/rollhaus/scorecard/Card", "upperBonus", "(I)I"⟩ : MethodName)) (z := (⟨"com/example/rollhaus/rollhaus/scorecard/Card", "upperBonus", "(I)I"⟩ : MethodName)) hown (mvT hZ (hw _ (List.mem_of_getElem? (i := 3) rfl))) (mvT hZ (hw _ (List.mem_of_getElem? (i := 4) rfl))) (notFace_of_selects (args := #[]) (mvT hZ (hw _ (List.mem_of_getElem? (i := 6) rfl)))) (mvT hZ (hw _ (List.mem_of_getElem? (i := 6) rfl))) (mvT hZ (hw _ (List.mem_of_getElem? (i := 5) rfl))) (by decide) (backOf (W := 0) (rm1 l Z a0 hw [] fd p1 (1 : Int32) h0 n0 Z0 F_fd) hZ (hw _ (List.mem_of_getElem? (i := 7) rfl)) (hw _ (List.mem_of_getElem? (i := 1) rfl)) (by decide) (by decide)) q17a q17c (g := (mkF m 70 #[.val (.int p0), .val (.int p1), .val (.int p2), .val (.int (p0 &&& (3 : Int32))), .val (.ref fd), .val (.int (1 : Int32)), .val (.int ((61 : Int32) + (p2 &&& (3 : Int32))))] [(.int p1), (.ref fd)])) rfl (by rw [hml]; rfl) (Steps.refl _) (argsL := [(.int p1)]) (rest := []) (lenOf pd0_0 rfl) rfl (by show 2 * 0 + _ ≤ _; exact Nat.le_of_eq rfl) (hb hby at_70) (fun _ _ => ⟨rfl, e16, (by decide : 0 + 0 ≤ _), (by decide : 0 + 0 ≤ _)⟩)
        dsimp only [Pt.U, Pt.locs, Pt.cells, Pt.slots] at X17 l17 y17 z17 st17 hQ17
        subst l17 y17 z17
        obtain ⟨rfl, N17q, e17⟩ := hQ17
        have N17 := Fr.app N0 N17q
        refine own_go (fun _ k => st17.trans k) ?_
        show own_Fin p.tables e below (T17.setTop (mkF m 73 #[.val (.int p0), .val (.int p1), .val (.int p2), .val (.int (p0 &&& (3 : Int32))), .val (.ref fd), .val (.int (1 : Int32)), .val (.int ((61 : Int32) + (p2 &&& (3 : Int32))))] [(.int (if (1 : Int32) = (0 : Int32) then (0 : Int32) else (if p1 < (63 : Int32) then (0 : Int32) else (35 : Int32))))])) _
        refine own_go (B := T17.setTop (mkF m 76 #[.val (.int p0), .val (.int p1), .val (.int p2), .val (.int (p0 &&& (3 : Int32))), .val (.ref fd), .val (.int (1 : Int32)), .val (.int ((61 : Int32) + (p2 &&& (3 : Int32))))] [(.int p1), (.int (1 : Int32)), (.int (if (1 : Int32) = (0 : Int32) then (0 : Int32) else (if p1 < (63 : Int32) then (0 : Int32) else (35 : Int32))))])) (fun t k => ?_) ?_
        · show Steps p.tables e below (T17.setTop (mkF m 73 #[.val (.int p0), .val (.int p1), .val (.int p2), .val (.int (p0 &&& (3 : Int32))), .val (.ref fd), .val (.int (1 : Int32)), .val (.int ((61 : Int32) + (p2 &&& (3 : Int32))))] [(.int (if (1 : Int32) = (0 : Int32) then (0 : Int32) else (if p1 < (63 : Int32) then (0 : Int32) else (35 : Int32))))])) t
          refine XS.iload X17.here hx rfl (hb hby at_73) rfl ?_
          refine XS.iloadN X17.here hx rfl (hb hby at_75) rfl ?_
          exact k
        obtain ⟨_, _, ⟨T18, L18, k18, n18⟩, -, X18, ⟨Lc18, hQ18, l18, y18, z18⟩, st18⟩ := Jvm.LawKit.callS X17 hx (y := (⟨"com/example/rollhaus/rollhaus/scorecard/CardUpperBonusPinLaw", "expected", "(ZI)I"⟩ : MethodName)) hown (mvT hZ (hw _ (List.mem_of_getElem? (i := 10) rfl))) (mvT hZ (hw _ (List.mem_of_getElem? (i := 11) rfl))) (mvT hZ (hw _ (List.mem_of_getElem? (i := 12) rfl))) (mvT hZ (hw _ (List.mem_of_getElem? (i := 13) rfl))) (by decide) (backOf (W := 1) (rm2 l Z a0 hw [] (1 : Int32) p1  h0 n0 Z0 ) hZ (hw _ (List.mem_of_getElem? (i := 13) rfl)) (hw _ (List.mem_of_getElem? (i := 12) rfl)) (by decide) (by decide)) (g := (mkF m 76 #[.val (.int p0), .val (.int p1), .val (.int p2), .val (.int (p0 &&& (3 : Int32))), .val (.ref fd), .val (.int (1 : Int32)), .val (.int ((61 : Int32) + (p2 &&& (3 : Int32))))] [(.int p1), (.int (1 : Int32)), (.int (if (1 : Int32) = (0 : Int32) then (0 : Int32) else (if p1 < (63 : Int32) then (0 : Int32) else (35 : Int32))))])) rfl (by rw [hml]; rfl) (argsL := [(.int (1 : Int32)), (.int p1)]) (rest := [(.int (if (1 : Int32) = (0 : Int32) then (0 : Int32) else (if p1 < (63 : Int32) then (0 : Int32) else (35 : Int32))))]) (lenOf pd0_1 rfl) rfl (by show 2 * 0 + _ ≤ _; exact Nat.le_of_eq rfl) (hb hby at_76) (fun _ _ => ⟨rfl, e17, (by decide : 0 + 0 ≤ _), (by decide : 0 + 0 ≤ _)⟩)
        dsimp only [Pt.U, Pt.locs, Pt.cells, Pt.slots] at X18 l18 y18 z18 st18 hQ18
        subst l18 y18 z18
        obtain ⟨rfl, N18q, e18⟩ := hQ18
        have N18 := Fr.app N17 N18q
        refine own_go (st18) ?_
        show own_Fin p.tables e below (T18.setTop (mkF m 79 #[.val (.int p0), .val (.int p1), .val (.int p2), .val (.int (p0 &&& (3 : Int32))), .val (.ref fd), .val (.int (1 : Int32)), .val (.int ((61 : Int32) + (p2 &&& (3 : Int32))))] [(.int (if (1 : Int32) = (0 : Int32) then (0 : Int32) else (if p1 < (63 : Int32) then (0 : Int32) else (35 : Int32)))), (.int (if (1 : Int32) = (0 : Int32) then (0 : Int32) else (if p1 < (63 : Int32) then (0 : Int32) else (35 : Int32))))])) _
        refine own_go (B := T18.setTop (mkF m 86 #[.val (.int p0), .val (.int p1), .val (.int p2), .val (.int (p0 &&& (3 : Int32))), .val (.ref fd), .val (.int (1 : Int32)), .val (.int ((61 : Int32) + (p2 &&& (3 : Int32))))] [(.int ((61 : Int32) + (p2 &&& (3 : Int32)))), (.ref fd)])) (fun t k => ?_) ?_
        · show Steps p.tables e below (T18.setTop (mkF m 79 #[.val (.int p0), .val (.int p1), .val (.int p2), .val (.int (p0 &&& (3 : Int32))), .val (.ref fd), .val (.int (1 : Int32)), .val (.int ((61 : Int32) + (p2 &&& (3 : Int32))))] [(.int (if (1 : Int32) = (0 : Int32) then (0 : Int32) else (if p1 < (63 : Int32) then (0 : Int32) else (35 : Int32)))), (.int (if (1 : Int32) = (0 : Int32) then (0 : Int32) else (if p1 < (63 : Int32) then (0 : Int32) else (35 : Int32))))])) t
          refine XS.icmpNo X18.here hx rfl (hb hby at_79) rfl (teq (rfl : (if (1 : Int32) = (0 : Int32) then (0 : Int32) else (if p1 < (63 : Int32) then (0 : Int32) else (35 : Int32))) = (if (1 : Int32) = (0 : Int32) then (0 : Int32) else (if p1 < (63 : Int32) then (0 : Int32) else (35 : Int32))))).2 ?_
          refine XS.aload X18.here hx rfl (hb hby at_82) rfl rfl ?_
          refine XS.iload X18.here hx rfl (hb hby at_84) rfl ?_
          exact k
        obtain ⟨cq19, kq19, q19a, q19b, q19c⟩ := isOf hZ e18 E_fd
        obtain ⟨_, _, ⟨T19, L19, k19, n19⟩, -, X19, ⟨Lc19, hQ19, l19, y19, z19⟩, st19⟩ := X18.virtualBack hx (y := (⟨"com/example/rollhaus/rollhaus/scorecard/Card", "upperBonus", "(I)I"⟩ : MethodName)) (z := (⟨"com/example/rollhaus/rollhaus/scorecard/Card", "upperBonus", "(I)I"⟩ : MethodName)) hown (mvT hZ (hw _ (List.mem_of_getElem? (i := 3) rfl))) (mvT hZ (hw _ (List.mem_of_getElem? (i := 4) rfl))) (notFace_of_selects (args := #[]) (mvT hZ (hw _ (List.mem_of_getElem? (i := 6) rfl)))) (mvT hZ (hw _ (List.mem_of_getElem? (i := 6) rfl))) (mvT hZ (hw _ (List.mem_of_getElem? (i := 5) rfl))) (by decide) (backOf (W := 0) (rm1 l Z a0 hw [] fd ((61 : Int32) + (p2 &&& (3 : Int32))) (1 : Int32) h0 n0 Z0 F_fd) hZ (hw _ (List.mem_of_getElem? (i := 7) rfl)) (hw _ (List.mem_of_getElem? (i := 1) rfl)) (by decide) (by decide)) q19a q19c (g := (mkF m 86 #[.val (.int p0), .val (.int p1), .val (.int p2), .val (.int (p0 &&& (3 : Int32))), .val (.ref fd), .val (.int (1 : Int32)), .val (.int ((61 : Int32) + (p2 &&& (3 : Int32))))] [(.int ((61 : Int32) + (p2 &&& (3 : Int32)))), (.ref fd)])) rfl (by rw [hml]; rfl) (Steps.refl _) (argsL := [(.int ((61 : Int32) + (p2 &&& (3 : Int32))))]) (rest := []) (lenOf pd0_0 rfl) rfl (by show 2 * 0 + _ ≤ _; exact Nat.le_of_eq rfl) (hb hby at_86) (fun _ _ => ⟨rfl, e18, (by decide : 0 + 0 ≤ _), (by decide : 0 + 0 ≤ _)⟩)
        dsimp only [Pt.U, Pt.locs, Pt.cells, Pt.slots] at X19 l19 y19 z19 st19 hQ19
        subst l19 y19 z19
        obtain ⟨rfl, N19q, e19⟩ := hQ19
        have N19 := Fr.app N18 N19q
        refine own_go (fun _ k => st19.trans k) ?_
        show own_Fin p.tables e below (T19.setTop (mkF m 89 #[.val (.int p0), .val (.int p1), .val (.int p2), .val (.int (p0 &&& (3 : Int32))), .val (.ref fd), .val (.int (1 : Int32)), .val (.int ((61 : Int32) + (p2 &&& (3 : Int32))))] [(.int (if (1 : Int32) = (0 : Int32) then (0 : Int32) else (if ((61 : Int32) + (p2 &&& (3 : Int32))) < (63 : Int32) then (0 : Int32) else (35 : Int32))))])) _
        refine own_go (B := T19.setTop (mkF m 93 #[.val (.int p0), .val (.int p1), .val (.int p2), .val (.int (p0 &&& (3 : Int32))), .val (.ref fd), .val (.int (1 : Int32)), .val (.int ((61 : Int32) + (p2 &&& (3 : Int32))))] [(.int ((61 : Int32) + (p2 &&& (3 : Int32)))), (.int (1 : Int32)), (.int (if (1 : Int32) = (0 : Int32) then (0 : Int32) else (if ((61 : Int32) + (p2 &&& (3 : Int32))) < (63 : Int32) then (0 : Int32) else (35 : Int32))))])) (fun t k => ?_) ?_
        · show Steps p.tables e below (T19.setTop (mkF m 89 #[.val (.int p0), .val (.int p1), .val (.int p2), .val (.int (p0 &&& (3 : Int32))), .val (.ref fd), .val (.int (1 : Int32)), .val (.int ((61 : Int32) + (p2 &&& (3 : Int32))))] [(.int (if (1 : Int32) = (0 : Int32) then (0 : Int32) else (if ((61 : Int32) + (p2 &&& (3 : Int32))) < (63 : Int32) then (0 : Int32) else (35 : Int32))))])) t
          refine XS.iload X19.here hx rfl (hb hby at_89) rfl ?_
          refine XS.iload X19.here hx rfl (hb hby at_91) rfl ?_
          exact k
        obtain ⟨_, _, ⟨T20, L20, k20, n20⟩, -, X20, ⟨Lc20, hQ20, l20, y20, z20⟩, st20⟩ := Jvm.LawKit.callS X19 hx (y := (⟨"com/example/rollhaus/rollhaus/scorecard/CardUpperBonusPinLaw", "expected", "(ZI)I"⟩ : MethodName)) hown (mvT hZ (hw _ (List.mem_of_getElem? (i := 10) rfl))) (mvT hZ (hw _ (List.mem_of_getElem? (i := 11) rfl))) (mvT hZ (hw _ (List.mem_of_getElem? (i := 12) rfl))) (mvT hZ (hw _ (List.mem_of_getElem? (i := 13) rfl))) (by decide) (backOf (W := 1) (rm2 l Z a0 hw [] (1 : Int32) ((61 : Int32) + (p2 &&& (3 : Int32)))  h0 n0 Z0 ) hZ (hw _ (List.mem_of_getElem? (i := 13) rfl)) (hw _ (List.mem_of_getElem? (i := 12) rfl)) (by decide) (by decide)) (g := (mkF m 93 #[.val (.int p0), .val (.int p1), .val (.int p2), .val (.int (p0 &&& (3 : Int32))), .val (.ref fd), .val (.int (1 : Int32)), .val (.int ((61 : Int32) + (p2 &&& (3 : Int32))))] [(.int ((61 : Int32) + (p2 &&& (3 : Int32)))), (.int (1 : Int32)), (.int (if (1 : Int32) = (0 : Int32) then (0 : Int32) else (if ((61 : Int32) + (p2 &&& (3 : Int32))) < (63 : Int32) then (0 : Int32) else (35 : Int32))))])) rfl (by rw [hml]; rfl) (argsL := [(.int (1 : Int32)), (.int ((61 : Int32) + (p2 &&& (3 : Int32))))]) (rest := [(.int (if (1 : Int32) = (0 : Int32) then (0 : Int32) else (if ((61 : Int32) + (p2 &&& (3 : Int32))) < (63 : Int32) then (0 : Int32) else (35 : Int32))))]) (lenOf pd0_1 rfl) rfl (by show 2 * 0 + _ ≤ _; exact Nat.le_of_eq rfl) (hb hby at_93) (fun _ _ => ⟨rfl, e19, (by decide : 0 + 0 ≤ _), (by decide : 0 + 0 ≤ _)⟩)
        dsimp only [Pt.U, Pt.locs, Pt.cells, Pt.slots] at X20 l20 y20 z20 st20 hQ20
        subst l20 y20 z20
        obtain ⟨rfl, N20q, e20⟩ := hQ20
        have N20 := Fr.app N19 N20q
        refine own_go (st20) ?_
        show own_Fin p.tables e below (T20.setTop (mkF m 96 #[.val (.int p0), .val (.int p1), .val (.int p2), .val (.int (p0 &&& (3 : Int32))), .val (.ref fd), .val (.int (1 : Int32)), .val (.int ((61 : Int32) + (p2 &&& (3 : Int32))))] [(.int (if (1 : Int32) = (0 : Int32) then (0 : Int32) else (if ((61 : Int32) + (p2 &&& (3 : Int32))) < (63 : Int32) then (0 : Int32) else (35 : Int32)))), (.int (if (1 : Int32) = (0 : Int32) then (0 : Int32) else (if ((61 : Int32) + (p2 &&& (3 : Int32))) < (63 : Int32) then (0 : Int32) else (35 : Int32))))])) _
        refine own_go (B := T20.setTop (mkF m 104 #[.val (.int p0), .val (.int p1), .val (.int p2), .val (.int (p0 &&& (3 : Int32))), .val (.ref fd), .val (.int (1 : Int32)), .val (.int ((61 : Int32) + (p2 &&& (3 : Int32))))] [(.int (1 : Int32))])) (fun t k => ?_) ?_
        · show Steps p.tables e below (T20.setTop (mkF m 96 #[.val (.int p0), .val (.int p1), .val (.int p2), .val (.int (p0 &&& (3 : Int32))), .val (.ref fd), .val (.int (1 : Int32)), .val (.int ((61 : Int32) + (p2 &&& (3 : Int32))))] [(.int (if (1 : Int32) = (0 : Int32) then (0 : Int32) else (if ((61 : Int32) + (p2 &&& (3 : Int32))) < (63 : Int32) then (0 : Int32) else (35 : Int32)))), (.int (if (1 : Int32) = (0 : Int32) then (0 : Int32) else (if ((61 : Int32) + (p2 &&& (3 : Int32))) < (63 : Int32) then (0 : Int32) else (35 : Int32))))])) t
          refine XS.icmpNo X20.here hx rfl (hb hby at_96) rfl (teq (rfl : (if (1 : Int32) = (0 : Int32) then (0 : Int32) else (if ((61 : Int32) + (p2 &&& (3 : Int32))) < (63 : Int32) then (0 : Int32) else (35 : Int32))) = (if (1 : Int32) = (0 : Int32) then (0 : Int32) else (if ((61 : Int32) + (p2 &&& (3 : Int32))) < (63 : Int32) then (0 : Int32) else (35 : Int32))))).2 ?_
          refine XS.iconst X20.here hx rfl (hb hby at_99) ?_
          refine XS.goto X20.here hx rfl (pc0 := 100) (pc' := 104) rfl (hb hby at_100) (by decide) (by decide) ?_
          exact k
        obtain ⟨fs, hr, hrun, hended, hW, hsame⟩ := X20.leave (v := some (.int (1 : Int32))) (fun h => by rw [Bd.returns] at h; cases h)
        refine ⟨_, _, ?_, hrun, hended, _, _, rfl, ?_, ⟨_, rfl⟩, hW, hsame.mono (by decide) (by decide)⟩
        · exact retOut X20 hx (t := .boolean) Bd.returns rfl (Or.inl ⟨rfl, by simp, _, rfl⟩) (hb hby at_104) hr
        · show Q0 Z p0 p1 p2 fa fb fc fd h0 n0 _ T20.heap _
          rw [e20]
          exact ⟨rfl, N20⟩
      · skip
        refine own_go (B := s₁.setTop (mkF m 51 #[.val (.int p0), .val (.int p1), .val (.int p2), .val (.int (p0 &&& (3 : Int32))), .unset, .unset, .unset] [])) (fun t k => ?_) ?_
        · show Steps p.tables e below (s₁.setTop (mkF m 37 #[.val (.int p0), .val (.int p1), .val (.int p2), .val (.int (p0 &&& (3 : Int32))), .unset, .unset, .unset] [(.int (2 : Int32)), (.int (p0 &&& (3 : Int32)))])) t
          refine XS.icmpYes X0.here hx rfl (pc0 := 37) (pc' := 51) rfl (hb hby at_37) rfl (feq hc15).2 (by decide) (by decide) ?_
          exact k
        obtain ⟨T22, X22, e22, st22⟩ := getS2 X0 hx hZ hown (host := "") (Or.inl (hw _ (List.mem_of_getElem? (i := 16) rfl))) Via.refl e0 (S_YAHTZEE.ext O0.2) (g := (mkF m 51 #[.val (.int p0), .val (.int p1), .val (.int p2), .val (.int (p0 &&& (3 : Int32))), .unset, .unset, .unset] [])) rfl (hb hby at_51)
        refine own_go st22 ?_
        show own_Fin p.tables e below (T22.setTop (mkF m 54 #[.val (.int p0), .val (.int p1), .val (.int p2), .val (.int (p0 &&& (3 : Int32))), .unset, .unset, .unset] [(.ref fc)])) _
        refine own_go (B := T22.setTop (mkF m 70 #[.val (.int p0), .val (.int p1), .val (.int p2), .val (.int (p0 &&& (3 : Int32))), .val (.ref fc), .val (.int (1 : Int32)), .val (.int ((61 : Int32) + (p2 &&& (3 : Int32))))] [(.int p1), (.ref fc)])) (fun t k => ?_) ?_
        · show Steps p.tables e below (T22.setTop (mkF m 54 #[.val (.int p0), .val (.int p1), .val (.int p2), .val (.int (p0 &&& (3 : Int32))), .unset, .unset, .unset] [(.ref fc)])) t
          refine XS.astore X22.here hx rfl (hb hby at_54) rfl rfl (l' := #[.val (.int p0), .val (.int p1), .val (.int p2), .val (.int (p0 &&& (3 : Int32))), .val (.ref fc), .unset, .unset]) rfl ?_
          refine XS.iconst X22.here hx rfl (hb hby at_56) ?_
          refine XS.istore X22.here hx rfl (hb hby at_57) rfl (l' := #[.val (.int p0), .val (.int p1), .val (.int p2), .val (.int (p0 &&& (3 : Int32))), .val (.ref fc), .val (.int (1 : Int32)), .unset]) rfl ?_
          refine XS.bipush X22.here hx rfl (hb hby at_59) ?_
          show Steps p.tables e below (T22.setTop (mkF m 61 #[.val (.int p0), .val (.int p1), .val (.int p2), .val (.int (p0 &&& (3 : Int32))), .val (.ref fc), .val (.int (1 : Int32)), .unset] [(.int (61 : Int32))])) t
          refine XS.iloadN X22.here hx rfl (hb hby at_61) rfl ?_
          refine XS.iconst X22.here hx rfl (hb hby at_62) ?_
          refine XS.iand X22.here hx rfl (hb hby at_63) rfl ?_
          refine XS.iadd X22.here hx rfl (hb hby at_64) rfl ?_
          show Steps p.tables e below (T22.setTop (mkF m 65 #[.val (.int p0), .val (.int p1), .val (.int p2), .val (.int (p0 &&& (3 : Int32))), .val (.ref fc), .val (.int (1 : Int32)), .unset] [(.int ((61 : Int32) + (p2 &&& (3 : Int32))))])) t
          refine XS.istore X22.here hx rfl (hb hby at_65) rfl (l' := #[.val (.int p0), .val (.int p1), .val (.int p2), .val (.int (p0 &&& (3 : Int32))), .val (.ref fc), .val (.int (1 : Int32)), .val (.int ((61 : Int32) + (p2 &&& (3 : Int32))))]) rfl ?_
          refine XS.aload X22.here hx rfl (hb hby at_67) rfl rfl ?_
          refine XS.iloadN X22.here hx rfl (hb hby at_69) rfl ?_
          exact k
        obtain ⟨cq23, kq23, q23a, q23b, q23c⟩ := isOf hZ e22 E_fc
        obtain ⟨_, _, ⟨T23, L23, k23, n23⟩, -, X23, ⟨Lc23, hQ23, l23, y23, z23⟩, st23⟩ := X22.virtualBack hx (y := (⟨"com/example/rollhaus/rollhaus/scorecard/Card", "upperBonus", "(I)I"⟩ : MethodName)) (z := (⟨"com/example/rollhaus/rollhaus/scorecard/Card", "upperBonus", "(I)I"⟩ : MethodName)) hown (mvT hZ (hw _ (List.mem_of_getElem? (i := 3) rfl))) (mvT hZ (hw _ (List.mem_of_getElem? (i := 4) rfl))) (notFace_of_selects (args := #[]) (mvT hZ (hw _ (List.mem_of_getElem? (i := 6) rfl)))) (mvT hZ (hw _ (List.mem_of_getElem? (i := 6) rfl))) (mvT hZ (hw _ (List.mem_of_getElem? (i := 5) rfl))) (by decide) (backOf (W := 0) (rm1 l Z a0 hw [] fc p1 (1 : Int32) h0 n0 Z0 F_fc) hZ (hw _ (List.mem_of_getElem? (i := 7) rfl)) (hw _ (List.mem_of_getElem? (i := 1) rfl)) (by decide) (by decide)) q23a q23c (g := (mkF m 70 #[.val (.int p0), .val (.int p1), .val (.int p2), .val (.int (p0 &&& (3 : Int32))), .val (.ref fc), .val (.int (1 : Int32)), .val (.int ((61 : Int32) + (p2 &&& (3 : Int32))))] [(.int p1), (.ref fc)])) rfl (by rw [hml]; rfl) (Steps.refl _) (argsL := [(.int p1)]) (rest := []) (lenOf pd0_0 rfl) rfl (by show 2 * 0 + _ ≤ _; exact Nat.le_of_eq rfl) (hb hby at_70) (fun _ _ => ⟨rfl, e22, (by decide : 0 + 0 ≤ _), (by decide : 0 + 0 ≤ _)⟩)
        dsimp only [Pt.U, Pt.locs, Pt.cells, Pt.slots] at X23 l23 y23 z23 st23 hQ23
        subst l23 y23 z23
        obtain ⟨rfl, N23q, e23⟩ := hQ23
        have N23 := Fr.app N0 N23q
        refine own_go (fun _ k => st23.trans k) ?_
        show own_Fin p.tables e below (T23.setTop (mkF m 73 #[.val (.int p0), .val (.int p1), .val (.int p2), .val (.int (p0 &&& (3 : Int32))), .val (.ref fc), .val (.int (1 : Int32)), .val (.int ((61 : Int32) + (p2 &&& (3 : Int32))))] [(.int (if (1 : Int32) = (0 : Int32) then (0 : Int32) else (if p1 < (63 : Int32) then (0 : Int32) else (35 : Int32))))])) _
        refine own_go (B := T23.setTop (mkF m 76 #[.val (.int p0), .val (.int p1), .val (.int p2), .val (.int (p0 &&& (3 : Int32))), .val (.ref fc), .val (.int (1 : Int32)), .val (.int ((61 : Int32) + (p2 &&& (3 : Int32))))] [(.int p1), (.int (1 : Int32)), (.int (if (1 : Int32) = (0 : Int32) then (0 : Int32) else (if p1 < (63 : Int32) then (0 : Int32) else (35 : Int32))))])) (fun t k => ?_) ?_
        · show Steps p.tables e below (T23.setTop (mkF m 73 #[.val (.int p0), .val (.int p1), .val (.int p2), .val (.int (p0 &&& (3 : Int32))), .val (.ref fc), .val (.int (1 : Int32)), .val (.int ((61 : Int32) + (p2 &&& (3 : Int32))))] [(.int (if (1 : Int32) = (0 : Int32) then (0 : Int32) else (if p1 < (63 : Int32) then (0 : Int32) else (35 : Int32))))])) t
          refine XS.iload X23.here hx rfl (hb hby at_73) rfl ?_
          refine XS.iloadN X23.here hx rfl (hb hby at_75) rfl ?_
          exact k
        obtain ⟨_, _, ⟨T24, L24, k24, n24⟩, -, X24, ⟨Lc24, hQ24, l24, y24, z24⟩, st24⟩ := Jvm.LawKit.callS X23 hx (y := (⟨"com/example/rollhaus/rollhaus/scorecard/CardUpperBonusPinLaw", "expected", "(ZI)I"⟩ : MethodName)) hown (mvT hZ (hw _ (List.mem_of_getElem? (i := 10) rfl))) (mvT hZ (hw _ (List.mem_of_getElem? (i := 11) rfl))) (mvT hZ (hw _ (List.mem_of_getElem? (i := 12) rfl))) (mvT hZ (hw _ (List.mem_of_getElem? (i := 13) rfl))) (by decide) (backOf (W := 1) (rm2 l Z a0 hw [] (1 : Int32) p1  h0 n0 Z0 ) hZ (hw _ (List.mem_of_getElem? (i := 13) rfl)) (hw _ (List.mem_of_getElem? (i := 12) rfl)) (by decide) (by decide)) (g := (mkF m 76 #[.val (.int p0), .val (.int p1), .val (.int p2), .val (.int (p0 &&& (3 : Int32))), .val (.ref fc), .val (.int (1 : Int32)), .val (.int ((61 : Int32) + (p2 &&& (3 : Int32))))] [(.int p1), (.int (1 : Int32)), (.int (if (1 : Int32) = (0 : Int32) then (0 : Int32) else (if p1 < (63 : Int32) then (0 : Int32) else (35 : Int32))))])) rfl (by rw [hml]; rfl) (argsL := [(.int (1 : Int32)), (.int p1)]) (rest := [(.int (if (1 : Int32) = (0 : Int32) then (0 : Int32) else (if p1 < (63 : Int32) then (0 : Int32) else (35 : Int32))))]) (lenOf pd0_1 rfl) rfl (by show 2 * 0 + _ ≤ _; exact Nat.le_of_eq rfl) (hb hby at_76) (fun _ _ => ⟨rfl, e23, (by decide : 0 + 0 ≤ _), (by decide : 0 + 0 ≤ _)⟩)
        dsimp only [Pt.U, Pt.locs, Pt.cells, Pt.slots] at X24 l24 y24 z24 st24 hQ24
        subst l24 y24 z24
        obtain ⟨rfl, N24q, e24⟩ := hQ24
        have N24 := Fr.app N23 N24q
        refine own_go (st24) ?_
        show own_Fin p.tables e below (T24.setTop (mkF m 79 #[.val (.int p0), .val (.int p1), .val (.int p2), .val (.int (p0 &&& (3 : Int32))), .val (.ref fc), .val (.int (1 : Int32)), .val (.int ((61 : Int32) + (p2 &&& (3 : Int32))))] [(.int (if (1 : Int32) = (0 : Int32) then (0 : Int32) else (if p1 < (63 : Int32) then (0 : Int32) else (35 : Int32)))), (.int (if (1 : Int32) = (0 : Int32) then (0 : Int32) else (if p1 < (63 : Int32) then (0 : Int32) else (35 : Int32))))])) _
        refine own_go (B := T24.setTop (mkF m 86 #[.val (.int p0), .val (.int p1), .val (.int p2), .val (.int (p0 &&& (3 : Int32))), .val (.ref fc), .val (.int (1 : Int32)), .val (.int ((61 : Int32) + (p2 &&& (3 : Int32))))] [(.int ((61 : Int32) + (p2 &&& (3 : Int32)))), (.ref fc)])) (fun t k => ?_) ?_
        · show Steps p.tables e below (T24.setTop (mkF m 79 #[.val (.int p0), .val (.int p1), .val (.int p2), .val (.int (p0 &&& (3 : Int32))), .val (.ref fc), .val (.int (1 : Int32)), .val (.int ((61 : Int32) + (p2 &&& (3 : Int32))))] [(.int (if (1 : Int32) = (0 : Int32) then (0 : Int32) else (if p1 < (63 : Int32) then (0 : Int32) else (35 : Int32)))), (.int (if (1 : Int32) = (0 : Int32) then (0 : Int32) else (if p1 < (63 : Int32) then (0 : Int32) else (35 : Int32))))])) t
          refine XS.icmpNo X24.here hx rfl (hb hby at_79) rfl (teq (rfl : (if (1 : Int32) = (0 : Int32) then (0 : Int32) else (if p1 < (63 : Int32) then (0 : Int32) else (35 : Int32))) = (if (1 : Int32) = (0 : Int32) then (0 : Int32) else (if p1 < (63 : Int32) then (0 : Int32) else (35 : Int32))))).2 ?_
          refine XS.aload X24.here hx rfl (hb hby at_82) rfl rfl ?_
          refine XS.iload X24.here hx rfl (hb hby at_84) rfl ?_
          exact k
        obtain ⟨cq25, kq25, q25a, q25b, q25c⟩ := isOf hZ e24 E_fc
        obtain ⟨_, _, ⟨T25, L25, k25, n25⟩, -, X25, ⟨Lc25, hQ25, l25, y25, z25⟩, st25⟩ := X24.virtualBack hx (y := (⟨"com/example/rollhaus/rollhaus/scorecard/Card", "upperBonus", "(I)I"⟩ : MethodName)) (z := (⟨"com/example/rollhaus/rollhaus/scorecard/Card", "upperBonus", "(I)I"⟩ : MethodName)) hown (mvT hZ (hw _ (List.mem_of_getElem? (i := 3) rfl))) (mvT hZ (hw _ (List.mem_of_getElem? (i := 4) rfl))) (notFace_of_selects (args := #[]) (mvT hZ (hw _ (List.mem_of_getElem? (i := 6) rfl)))) (mvT hZ (hw _ (List.mem_of_getElem? (i := 6) rfl))) (mvT hZ (hw _ (List.mem_of_getElem? (i := 5) rfl))) (by decide) (backOf (W := 0) (rm1 l Z a0 hw [] fc ((61 : Int32) + (p2 &&& (3 : Int32))) (1 : Int32) h0 n0 Z0 F_fc) hZ (hw _ (List.mem_of_getElem? (i := 7) rfl)) (hw _ (List.mem_of_getElem? (i := 1) rfl)) (by decide) (by decide)) q25a q25c (g := (mkF m 86 #[.val (.int p0), .val (.int p1), .val (.int p2), .val (.int (p0 &&& (3 : Int32))), .val (.ref fc), .val (.int (1 : Int32)), .val (.int ((61 : Int32) + (p2 &&& (3 : Int32))))] [(.int ((61 : Int32) + (p2 &&& (3 : Int32)))), (.ref fc)])) rfl (by rw [hml]; rfl) (Steps.refl _) (argsL := [(.int ((61 : Int32) + (p2 &&& (3 : Int32))))]) (rest := []) (lenOf pd0_0 rfl) rfl (by show 2 * 0 + _ ≤ _; exact Nat.le_of_eq rfl) (hb hby at_86) (fun _ _ => ⟨rfl, e24, (by decide : 0 + 0 ≤ _), (by decide : 0 + 0 ≤ _)⟩)
        dsimp only [Pt.U, Pt.locs, Pt.cells, Pt.slots] at X25 l25 y25 z25 st25 hQ25
        subst l25 y25 z25
        obtain ⟨rfl, N25q, e25⟩ := hQ25
        have N25 := Fr.app N24 N25q
        refine own_go (fun _ k => st25.trans k) ?_
        show own_Fin p.tables e below (T25.setTop (mkF m 89 #[.val (.int p0), .val (.int p1), .val (.int p2), .val (.int (p0 &&& (3 : Int32))), .val (.ref fc), .val (.int (1 : Int32)), .val (.int ((61 : Int32) + (p2 &&& (3 : Int32))))] [(.int (if (1 : Int32) = (0 : Int32) then (0 : Int32) else (if ((61 : Int32) + (p2 &&& (3 : Int32))) < (63 : Int32) then (0 : Int32) else (35 : Int32))))])) _
        refine own_go (B := T25.setTop (mkF m 93 #[.val (.int p0), .val (.int p1), .val (.int p2), .val (.int (p0 &&& (3 : Int32))), .val (.ref fc), .val (.int (1 : Int32)), .val (.int ((61 : Int32) + (p2 &&& (3 : Int32))))] [(.int ((61 : Int32) + (p2 &&& (3 : Int32)))), (.int (1 : Int32)), (.int (if (1 : Int32) = (0 : Int32) then (0 : Int32) else (if ((61 : Int32) + (p2 &&& (3 : Int32))) < (63 : Int32) then (0 : Int32) else (35 : Int32))))])) (fun t k => ?_) ?_
        · show Steps p.tables e below (T25.setTop (mkF m 89 #[.val (.int p0), .val (.int p1), .val (.int p2), .val (.int (p0 &&& (3 : Int32))), .val (.ref fc), .val (.int (1 : Int32)), .val (.int ((61 : Int32) + (p2 &&& (3 : Int32))))] [(.int (if (1 : Int32) = (0 : Int32) then (0 : Int32) else (if ((61 : Int32) + (p2 &&& (3 : Int32))) < (63 : Int32) then (0 : Int32) else (35 : Int32))))])) t
          refine XS.iload X25.here hx rfl (hb hby at_89) rfl ?_
          refine XS.iload X25.here hx rfl (hb hby at_91) rfl ?_
          exact k
        obtain ⟨_, _, ⟨T26, L26, k26, n26⟩, -, X26, ⟨Lc26, hQ26, l26, y26, z26⟩, st26⟩ := Jvm.LawKit.callS X25 hx (y := (⟨"com/example/rollhaus/rollhaus/scorecard/CardUpperBonusPinLaw", "expected", "(ZI)I"⟩ : MethodName)) hown (mvT hZ (hw _ (List.mem_of_getElem? (i := 10) rfl))) (mvT hZ (hw _ (List.mem_of_getElem? (i := 11) rfl))) (mvT hZ (hw _ (List.mem_of_getElem? (i := 12) rfl))) (mvT hZ (hw _ (List.mem_of_getElem? (i := 13) rfl))) (by decide) (backOf (W := 1) (rm2 l Z a0 hw [] (1 : Int32) ((61 : Int32) + (p2 &&& (3 : Int32)))  h0 n0 Z0 ) hZ (hw _ (List.mem_of_getElem? (i := 13) rfl)) (hw _ (List.mem_of_getElem? (i := 12) rfl)) (by decide) (by decide)) (g := (mkF m 93 #[.val (.int p0), .val (.int p1), .val (.int p2), .val (.int (p0 &&& (3 : Int32))), .val (.ref fc), .val (.int (1 : Int32)), .val (.int ((61 : Int32) + (p2 &&& (3 : Int32))))] [(.int ((61 : Int32) + (p2 &&& (3 : Int32)))), (.int (1 : Int32)), (.int (if (1 : Int32) = (0 : Int32) then (0 : Int32) else (if ((61 : Int32) + (p2 &&& (3 : Int32))) < (63 : Int32) then (0 : Int32) else (35 : Int32))))])) rfl (by rw [hml]; rfl) (argsL := [(.int (1 : Int32)), (.int ((61 : Int32) + (p2 &&& (3 : Int32))))]) (rest := [(.int (if (1 : Int32) = (0 : Int32) then (0 : Int32) else (if ((61 : Int32) + (p2 &&& (3 : Int32))) < (63 : Int32) then (0 : Int32) else (35 : Int32))))]) (lenOf pd0_1 rfl) rfl (by show 2 * 0 + _ ≤ _; exact Nat.le_of_eq rfl) (hb hby at_93) (fun _ _ => ⟨rfl, e25, (by decide : 0 + 0 ≤ _), (by decide : 0 + 0 ≤ _)⟩)
        dsimp only [Pt.U, Pt.locs, Pt.cells, Pt.slots] at X26 l26 y26 z26 st26 hQ26
        subst l26 y26 z26
        obtain ⟨rfl, N26q, e26⟩ := hQ26
        have N26 := Fr.app N25 N26q
        refine own_go (st26) ?_
        show own_Fin p.tables e below (T26.setTop (mkF m 96 #[.val (.int p0), .val (.int p1), .val (.int p2), .val (.int (p0 &&& (3 : Int32))), .val (.ref fc), .val (.int (1 : Int32)), .val (.int ((61 : Int32) + (p2 &&& (3 : Int32))))] [(.int (if (1 : Int32) = (0 : Int32) then (0 : Int32) else (if ((61 : Int32) + (p2 &&& (3 : Int32))) < (63 : Int32) then (0 : Int32) else (35 : Int32)))), (.int (if (1 : Int32) = (0 : Int32) then (0 : Int32) else (if ((61 : Int32) + (p2 &&& (3 : Int32))) < (63 : Int32) then (0 : Int32) else (35 : Int32))))])) _
        refine own_go (B := T26.setTop (mkF m 104 #[.val (.int p0), .val (.int p1), .val (.int p2), .val (.int (p0 &&& (3 : Int32))), .val (.ref fc), .val (.int (1 : Int32)), .val (.int ((61 : Int32) + (p2 &&& (3 : Int32))))] [(.int (1 : Int32))])) (fun t k => ?_) ?_
        · show Steps p.tables e below (T26.setTop (mkF m 96 #[.val (.int p0), .val (.int p1), .val (.int p2), .val (.int (p0 &&& (3 : Int32))), .val (.ref fc), .val (.int (1 : Int32)), .val (.int ((61 : Int32) + (p2 &&& (3 : Int32))))] [(.int (if (1 : Int32) = (0 : Int32) then (0 : Int32) else (if ((61 : Int32) + (p2 &&& (3 : Int32))) < (63 : Int32) then (0 : Int32) else (35 : Int32)))), (.int (if (1 : Int32) = (0 : Int32) then (0 : Int32) else (if ((61 : Int32) + (p2 &&& (3 : Int32))) < (63 : Int32) then (0 : Int32) else (35 : Int32))))])) t
          refine XS.icmpNo X26.here hx rfl (hb hby at_96) rfl (teq (rfl : (if (1 : Int32) = (0 : Int32) then (0 : Int32) else (if ((61 : Int32) + (p2 &&& (3 : Int32))) < (63 : Int32) then (0 : Int32) else (35 : Int32))) = (if (1 : Int32) = (0 : Int32) then (0 : Int32) else (if ((61 : Int32) + (p2 &&& (3 : Int32))) < (63 : Int32) then (0 : Int32) else (35 : Int32))))).2 ?_
          refine XS.iconst X26.here hx rfl (hb hby at_99) ?_
          refine XS.goto X26.here hx rfl (pc0 := 100) (pc' := 104) rfl (hb hby at_100) (by decide) (by decide) ?_
          exact k
        obtain ⟨fs, hr, hrun, hended, hW, hsame⟩ := X26.leave (v := some (.int (1 : Int32))) (fun h => by rw [Bd.returns] at h; cases h)
        refine ⟨_, _, ?_, hrun, hended, _, _, rfl, ?_, ⟨_, rfl⟩, hW, hsame.mono (by decide) (by decide)⟩
        · exact retOut X26 hx (t := .boolean) Bd.returns rfl (Or.inl ⟨rfl, by simp, _, rfl⟩) (hb hby at_104) hr
        · show Q0 Z p0 p1 p2 fa fb fc fd h0 n0 _ T26.heap _
          rw [e26]
          exact ⟨rfl, N26⟩
set_option maxRecDepth 65536 in
set_option maxHeartbeats 40000000 in
theorem comes_1 {Post : Tables → Env → Array Value → State → Outcome → State → Prop} (hpost : ∀ tb e args s v u, (limb_1_1.after args s (.returned v) u = true ∧ limb_1_2.after args s (.returned v) u = true ∧ True) → FrameEnd s (.returned v) u (Jvm.fieldLocs frame_1_writes args s ++ Jvm.arrayLocs frame_1_arrays args s ++ Jvm.staticLocs frame_1_statics s) 0 0 → Post tb e args s (.returned v) u) :
    ArmFor flags0 classFile x code maxLocals ret World_1 tables_1 room_1 Calls_1 rest_1 Pre_1 Post := by
  intro l hfl _ _ p e ha hc hk s m args below hf hA hF happ hP
  obtain ⟨hcalls, hrest, hpre⟩ := hP
  obtain ⟨-, -, -, hnamed, -, -, -, hat⟩ := (Spec.applies_iff hf).mp happ
  obtain ⟨hg, hn⟩ := and_e (Cond.before_iff.mp (show (Jvm.Cond.and given_1 narrow_1).before args s = true from hpre))
  obtain ⟨hcnt, hv0⟩ := and_e hg
  obtain ⟨hk0, hv1⟩ := and_e hv0
  obtain ⟨hk1, hv2⟩ := and_e hv1
  have hk2 := hv2
  obtain ⟨w0, w1, w2, rfl⟩ : ∃ w0 w1 w2 : Value, args = #[w0, w1, w2] := by
    have hs : args.size = 3 := by simpa [Cond.value, given_1] using hcnt
    obtain ⟨L⟩ := args
    match L, hs with
    | [w0, w1, w2], _ => exact ⟨w0, w1, w2, rfl⟩
  have hw := fun d (hd : d ∈ tables_1) => atoms_spec (ws := Jvm.Cond.code x code maxLocals ret :: tables_1) hat d (List.mem_cons_of_mem _ hd)
  have hfit : Fit s := fun {y c} hc i hi => by
    obtain ⟨ha, rfl⟩ := Array.getElem?_eq_some_iff.mp hc
    have q := List.all_eq_true.mp ((Array.all_eq_true_iff_forall_mem.mp hF) _ (Array.getElem_mem ha)) i (List.mem_range.mpr hi)
    simpa [Array.getElem?_eq_getElem hi] using q
  obtain ⟨i0, ei0⟩ := is_v hk0
  obtain rfl : w0 = (.int i0) := Option.some.inj ei0
  obtain ⟨i1, ei1⟩ := is_v hk1
  obtain rfl : w1 = (.int i1) := Option.some.inj ei1
  obtain ⟨i2, ei2⟩ := is_v hk2
  obtain rfl : w2 = (.int i2) := Option.some.inj ei2
  obtain ⟨na0, hn0⟩ := and_e hn
  obtain ⟨na1, hn1⟩ := and_e hn0
  obtain ⟨nb0, hn2⟩ := and_e hn1
  obtain ⟨nb1, hn3⟩ := and_e hn2
  obtain ⟨nc0, hn4⟩ := and_e hn3
  obtain ⟨nc1, hn5⟩ := and_e hn4
  obtain ⟨nd0, hn6⟩ := and_e hn5
  have nd1 := hn6
  obtain ⟨fa, ev_fa⟩ := exa_v na0
  have S_KNUBBEL_V1 : Sta s s.heap "com/example/rollhaus/rollhaus/scorecard/Card" "KNUBBEL_V1" "Lcom/example/rollhaus/rollhaus/scorecard/Card;" (.ref fa) := Sta.start ev_fa (Or.inr ⟨(hw _ (List.mem_of_getElem? (i := 1) rfl)), (hw _ (List.mem_of_getElem? (i := 2) rfl))⟩)
  have E_fa : Exa s s.heap fa "com/example/rollhaus/rollhaus/scorecard/Card" := Exa.start ev_fa na0
  have F_fa : Fld s s.heap fa "com/example/rollhaus/rollhaus/scorecard/Card" "upperBonus" "Z" (.int (0 : Int32)) := Fld.start ((fld_at ev_fa).symm.trans (own_eqI na1))
  obtain ⟨fb, ev_fb⟩ := exa_v nb0
  have S_KNUBBEL_V2 : Sta s s.heap "com/example/rollhaus/rollhaus/scorecard/Card" "KNUBBEL_V2" "Lcom/example/rollhaus/rollhaus/scorecard/Card;" (.ref fb) := Sta.start ev_fb (Or.inr ⟨(hw _ (List.mem_of_getElem? (i := 1) rfl)), (hw _ (List.mem_of_getElem? (i := 15) rfl))⟩)
  have E_fb : Exa s s.heap fb "com/example/rollhaus/rollhaus/scorecard/Card" := Exa.start ev_fb nb0
  have F_fb : Fld s s.heap fb "com/example/rollhaus/rollhaus/scorecard/Card" "upperBonus" "Z" (.int (0 : Int32)) := Fld.start ((fld_at ev_fb).symm.trans (own_eqI nb1))
  obtain ⟨fc, ev_fc⟩ := exa_v nc0
  have S_YAHTZEE : Sta s s.heap "com/example/rollhaus/rollhaus/scorecard/Card" "YAHTZEE" "Lcom/example/rollhaus/rollhaus/scorecard/Card;" (.ref fc) := Sta.start ev_fc (Or.inr ⟨(hw _ (List.mem_of_getElem? (i := 1) rfl)), (hw _ (List.mem_of_getElem? (i := 17) rfl))⟩)
  have E_fc : Exa s s.heap fc "com/example/rollhaus/rollhaus/scorecard/Card" := Exa.start ev_fc nc0
  have F_fc : Fld s s.heap fc "com/example/rollhaus/rollhaus/scorecard/Card" "upperBonus" "Z" (.int (1 : Int32)) := Fld.start ((fld_at ev_fc).symm.trans (own_eqI nc1))
  obtain ⟨fd, ev_fd⟩ := exa_v nd0
  have S_KNUBBEL_V3 : Sta s s.heap "com/example/rollhaus/rollhaus/scorecard/Card" "KNUBBEL_V3" "Lcom/example/rollhaus/rollhaus/scorecard/Card;" (.ref fd) := Sta.start ev_fd (Or.inr ⟨(hw _ (List.mem_of_getElem? (i := 1) rfl)), (hw _ (List.mem_of_getElem? (i := 19) rfl))⟩)
  have E_fd : Exa s s.heap fd "com/example/rollhaus/rollhaus/scorecard/Card" := Exa.start ev_fd nd0
  have F_fd : Fld s s.heap fd "com/example/rollhaus/rollhaus/scorecard/Card" "upperBonus" "Z" (.int (1 : Int32)) := Fld.start ((fld_at ev_fd).symm.trans (own_eqI nd1))
  obtain ⟨n, o, h1, h2, h3, _, L, rfl, ⟨rfl, N⟩, hq⟩ := rm0 l s _ hw tables_1 i0 i1 i2 fa fb fc fd s.heap s.heap.size (Nat.le_refl _) (Old.start s) S_KNUBBEL_V1 E_fa F_fa S_KNUBBEL_V2 E_fb F_fb S_YAHTZEE E_fc F_fc S_KNUBBEL_V3 E_fd F_fd p e ha hc hk s m _ below hf ((Spec.applies_iff_loose hf).mp happ).1 ⟨rfl, State.Warmed39.refl s, rfl⟩ trivial
  refine ⟨n, _, h1, h2, h3, hpost _ _ _ _ _ _ ⟨Cond.after_iff.mpr rfl, Cond.after_iff.mpr (eq_i res_at (Term.int_eval (1)) rfl), trivial⟩ ⟨hq.1, hq.2.1, (hq.2.2.sift fun y hy => Or.inr (N y hy)).mono (by decide) (by decide)⟩⟩
theorem main_1_1 : Claimed_1_1 := comes_1 fun _ _ _ _ _ _ h hF => ⟨h.1, hF⟩
theorem main_1_2 : Claimed_1_2 := comes_1 fun _ _ _ _ _ _ h hF => ⟨h.2.1, hF⟩
end Jvm.Pilot.@@N@@
namespace Jvm.Pilot.@@N@@
open Jvm Jvm.ClassFile Sem Op Lib Jvm.Free Jvm.Stand Jvm.Pilot.@@N@@.Jvm.D
/-! MADE BY PROGRAM (witnessworld.py) out of the Statement's table words and the real class files: 12 classes; the members and pool entries that the words name. The judged class is class 1, her method 1. -/
namespace start1
open Jvm.ClassFile
def u (s : String) : CpInfo := .utf8 (stringToUtf16 s)
/-- a pool by its gaps: so many unusable entries, then the entry; so many at the end -/
def gap : Nat → List CpInfo → List CpInfo
  | 0, r => r
  | n + 1, r => .unusable :: gap n r
def poolList (es : List (Nat × CpInfo)) (last : Nat) : List CpInfo := es.foldr (fun e r => gap e.1 (e.2 :: r)) (gap last [])
def pool (es : List (Nat × CpInfo)) (last : Nat) : Array CpInfo := ⟨poolList es last⟩
def fileOf (pool : Array CpInfo) (this : Nat) (attrs : Array Attribute := #[]) (ms : Array MethodInfo := #[]) (fl : Nat := 33) (sup : Nat := 0) (ifs : Array Nat := #[]) (fds : Array FieldInfo := #[]) : ClassFile where
  minorVersion := 0
  majorVersion := 65
  constantPool := pool
  accessFlags := fl
  thisClass := this
  superClass := sup
  interfaces := ifs
  fields := fds
  methods := ms
  attributes := attrs
def plain (name : String) (sup : Option ClassId) : Class where
  name := name
  kind := .ordinary
  loader := none
  accessFlags := 33
  super := sup
  interfaces := #[]
  cf := none
  fields := #[]
  methods := #[]
  instanceTypes := #[]
  staticTypes := #[]
  resolved := #[]
  callSites := []
  init := .initialized
  statics := none
  mirror := none

def pool0 : Array CpInfo := pool [(5, u "<init>"), (0, u "()V"), (1, .class_ 10), (1, u "java/lang/Object")] 113

def k0m0 : Method := { name := "<init>", desc := "()V", sig := { parameters := [], returnType := none }, accessFlags := 1, code := none }
/-- java/lang/Object -/
def k0 : Class := { plain "java/lang/Object" none with
  accessFlags := 33
  interfaces := #[]
  cf := some (fileOf pool0 8 #[] #[{ accessFlags := 1, nameIndex := 5, descriptorIndex := 6, attributes := #[] }] 33 0 #[] #[])
  fields := #[]
  methods := #[k0m0]
  instanceTypes := #[]
  staticTypes := #[]
  resolved := Array.replicate 124 none
  statics := none }

def pool1 : Array CpInfo := pool [(2, .class_ 4), (1, u "java/lang/Object"), (0, u "<init>"), (0, u "()V"), (0, .fieldref 8 9), (0, .class_ 10), (0, .nameAndType 11 12), (0, u "com/example/rollhaus/rollhaus/scorecard/Card"), (0, u "KNUBBEL_V1"), (0, u "Lcom/example/rollhaus/rollhaus/scorecard/Card;"), (0, .fieldref 8 14), (0, .nameAndType 15 12), (0, u "KNUBBEL_V2"), (0, .fieldref 8 17), (0, .nameAndType 18 12), (0, u "KNUBBEL_V3"), (0, .fieldref 8 20), (0, .nameAndType 21 12), (0, u "YAHTZEE"), (0, .methodref 8 23), (0, .nameAndType 24 25), (0, u "upperBonus"), (0, u "(I)I"), (0, .methodref 27 28), (0, .class_ 29), (0, .nameAndType 30 31), (0, u "com/example/rollhaus/rollhaus/scorecard/CardUpperBonusPinLaw"), (0, u "expected"), (0, u "(ZI)I"), (2, u "law"), (0, u "(III)Z")] 3

def k1m0 : Method := { name := "<init>", desc := "()V", sig := { parameters := [], returnType := none }, accessFlags := 1, code := none }
def k1c1 : Code := { maxStack := 3, maxLocals := 7, code := code, exceptionTable := #[], attributes := #[] }
def k1m1 : Method := { name := "law", desc := "(III)Z", sig := { parameters := [.int, .int, .int], returnType := some .boolean }, accessFlags := 9, code := some k1c1 }
def k1c2 : Code := { maxStack := 2, maxLocals := 2, code := method_3_code, exceptionTable := #[], attributes := #[] }
def k1m2 : Method := { name := "expected", desc := "(ZI)I", sig := { parameters := [.boolean, .int], returnType := some .int }, accessFlags := 10, code := some k1c2 }
/-- com/example/rollhaus/rollhaus/scorecard/CardUpperBonusPinLaw -/
def k1 : Class := { plain "com/example/rollhaus/rollhaus/scorecard/CardUpperBonusPinLaw" (some 0) with
  accessFlags := 49
  interfaces := #[]
  cf := some (fileOf pool1 27 #[] #[{ accessFlags := 1, nameIndex := 5, descriptorIndex := 6, attributes := #[] }, { accessFlags := 9, nameIndex := 34, descriptorIndex := 35, attributes := #[] }, { accessFlags := 10, nameIndex := 30, descriptorIndex := 31, attributes := #[] }] 49 2 #[] #[])
  fields := #[]
  methods := #[k1m0, k1m1, k1m2]
  instanceTypes := #[]
  staticTypes := #[]
  resolved := Array.replicate 39 none
  statics := none }

def pool2 : Array CpInfo := pool [(1, .class_ 2), (0, u "java/lang/constant/Constable"), (0, .class_ 4), (0, u "java/lang/Object")] 6

/-- java/lang/constant/Constable -/
def k2 : Class := { plain "java/lang/constant/Constable" (some 0) with
  accessFlags := 1537
  interfaces := #[]
  cf := some (fileOf pool2 1 #[] #[] 1537 3 #[] #[])
  fields := #[]
  methods := #[]
  instanceTypes := #[]
  staticTypes := #[]
  resolved := Array.replicate 11 none
  statics := none }

def pool3 : Array CpInfo := pool [(1, .class_ 2), (0, u "java/lang/Comparable"), (0, .class_ 4), (0, u "java/lang/Object")] 7

/-- java/lang/Comparable -/
def k3 : Class := { plain "java/lang/Comparable" (some 0) with
  accessFlags := 1537
  interfaces := #[]
  cf := some (fileOf pool3 1 #[] #[] 1537 3 #[] #[])
  fields := #[]
  methods := #[]
  instanceTypes := #[]
  staticTypes := #[]
  resolved := Array.replicate 12 none
  statics := none }

def pool4 : Array CpInfo := pool [(1, .class_ 2), (0, u "java/io/Serializable"), (0, .class_ 4), (0, u "java/lang/Object")] 2

/-- java/io/Serializable -/
def k4 : Class := { plain "java/io/Serializable" (some 0) with
  accessFlags := 1537
  interfaces := #[]
  cf := some (fileOf pool4 1 #[] #[] 1537 3 #[] #[])
  fields := #[]
  methods := #[]
  instanceTypes := #[]
  staticTypes := #[]
  resolved := Array.replicate 7 none
  statics := none }

def pool5 : Array CpInfo := pool [(2, .class_ 4), (1, u "java/lang/Enum"), (0, u "name"), (0, u "Ljava/lang/String;"), (2, u "ordinal"), (0, u "I"), (1, .class_ 14), (1, u "java/lang/Object"), (4, u "hash"), (86, .class_ 108), (1, u "java/lang/Enum$EnumDesc"), (2, .class_ 112), (0, u "java/lang/constant/Constable"), (0, .class_ 114), (0, u "java/lang/Comparable"), (0, .class_ 116), (0, u "java/io/Serializable")] 87

/-- java/lang/Enum -/
def k5 : Class := { plain "java/lang/Enum" (some 0) with
  accessFlags := 1057
  interfaces := #[2, 3, 4]
  cf := some (fileOf pool5 2 #[.nestMembers #[106]] #[] 1057 12 #[111, 113, 115] #[{ accessFlags := 18, nameIndex := 5, descriptorIndex := 6, attributes := #[] }, { accessFlags := 18, nameIndex := 9, descriptorIndex := 10, attributes := #[] }, { accessFlags := 2, nameIndex := 19, descriptorIndex := 10, attributes := #[] }])
  fields := #[{ name := "name", type := (.object "java/lang/String"), accessFlags := 18, slot := 0, constantValue := 0 }, { name := "ordinal", type := .int, accessFlags := 18, slot := 1, constantValue := 0 }, { name := "hash", type := .int, accessFlags := 2, slot := 2, constantValue := 0 }]
  methods := #[]
  instanceTypes := #[(.object "java/lang/String"), .int, .int]
  staticTypes := #[]
  resolved := Array.replicate 204 none
  statics := none }

def pool6 : Array CpInfo := pool [(1, .class_ 2), (0, u "com/example/rollhaus/rollhaus/scorecard/Card"), (2, u "KNUBBEL_V1"), (0, u "Lcom/example/rollhaus/rollhaus/scorecard/Card;"), (2, u "KNUBBEL_V2"), (2, u "KNUBBEL_V3"), (2, u "YAHTZEE"), (2, u "$VALUES"), (0, u "[Lcom/example/rollhaus/rollhaus/scorecard/Card;"), (6, .class_ 28), (1, u "java/lang/Enum"), (8, u "label"), (0, u "Ljava/lang/String;"), (2, u "fields"), (0, u "Ljava/util/List;"), (0, .fieldref 1 44), (0, .nameAndType 45 46), (0, u "upperBonus"), (0, u "Z"), (173, u "UPPER_BONUS_FROM"), (0, u "I"), (2, u "UPPER_BONUS"), (18, u "(I)I")] 37

def k6c0 : Code := { maxStack := 2, maxLocals := 2, code := prog_28_method_11_code, exceptionTable := #[], attributes := #[] }
def k6m0 : Method := { name := "upperBonus", desc := "(I)I", sig := { parameters := [.int], returnType := some .int }, accessFlags := 1, code := some k6c0 }
/-- com/example/rollhaus/rollhaus/scorecard/Card -/
def k6 : Class := { plain "com/example/rollhaus/rollhaus/scorecard/Card" (some 5) with
  accessFlags := 16433
  interfaces := #[]
  cf := some (fileOf pool6 1 #[] #[{ accessFlags := 1, nameIndex := 45, descriptorIndex := 243, attributes := #[] }] 16433 26 #[] #[{ accessFlags := 16409, nameIndex := 5, descriptorIndex := 6, attributes := #[] }, { accessFlags := 16409, nameIndex := 9, descriptorIndex := 6, attributes := #[] }, { accessFlags := 16409, nameIndex := 12, descriptorIndex := 6, attributes := #[] }, { accessFlags := 16409, nameIndex := 15, descriptorIndex := 6, attributes := #[] }, { accessFlags := 25, nameIndex := 220, descriptorIndex := 221, attributes := #[] }, { accessFlags := 26, nameIndex := 224, descriptorIndex := 221, attributes := #[] }, { accessFlags := 18, nameIndex := 37, descriptorIndex := 38, attributes := #[] }, { accessFlags := 18, nameIndex := 41, descriptorIndex := 42, attributes := #[] }, { accessFlags := 18, nameIndex := 45, descriptorIndex := 46, attributes := #[] }, { accessFlags := 4122, nameIndex := 18, descriptorIndex := 19, attributes := #[] }])
  fields := #[{ name := "KNUBBEL_V1", type := (.object "com/example/rollhaus/rollhaus/scorecard/Card"), accessFlags := 16409, slot := 0, constantValue := 0 }, { name := "KNUBBEL_V2", type := (.object "com/example/rollhaus/rollhaus/scorecard/Card"), accessFlags := 16409, slot := 1, constantValue := 0 }, { name := "KNUBBEL_V3", type := (.object "com/example/rollhaus/rollhaus/scorecard/Card"), accessFlags := 16409, slot := 2, constantValue := 0 }, { name := "YAHTZEE", type := (.object "com/example/rollhaus/rollhaus/scorecard/Card"), accessFlags := 16409, slot := 3, constantValue := 0 }, { name := "UPPER_BONUS_FROM", type := .int, accessFlags := 25, slot := 4, constantValue := 0 }, { name := "UPPER_BONUS", type := .int, accessFlags := 26, slot := 5, constantValue := 0 }, { name := "label", type := (.object "java/lang/String"), accessFlags := 18, slot := 3, constantValue := 0 }, { name := "fields", type := (.object "java/util/List"), accessFlags := 18, slot := 4, constantValue := 0 }, { name := "upperBonus", type := .boolean, accessFlags := 18, slot := 5, constantValue := 0 }, { name := "$VALUES", type := (.array (.object "com/example/rollhaus/rollhaus/scorecard/Card")), accessFlags := 4122, slot := 6, constantValue := 0 }]
  methods := #[k6m0]
  instanceTypes := #[(.object "java/lang/String"), .int, .int, (.object "java/lang/String"), (.object "java/util/List"), .boolean]
  staticTypes := #[(.object "com/example/rollhaus/rollhaus/scorecard/Card"), (.object "com/example/rollhaus/rollhaus/scorecard/Card"), (.object "com/example/rollhaus/rollhaus/scorecard/Card"), (.object "com/example/rollhaus/rollhaus/scorecard/Card"), .int, .int, (.array (.object "com/example/rollhaus/rollhaus/scorecard/Card"))]
  resolved := Array.replicate 281 none
  statics := some 0 }

def pool7 : Array CpInfo := pool [(1, u "java/lang/Cloneable"), (0, .class_ 1), (0, u "java/lang/Object"), (0, .class_ 3)] 3

/-- java/lang/Cloneable -/
def k7 : Class := { plain "java/lang/Cloneable" (some 0) with
  accessFlags := 1537
  interfaces := #[]
  cf := some (fileOf pool7 2 #[] #[] 1537 4 #[] #[])
  fields := #[]
  methods := #[]
  instanceTypes := #[]
  staticTypes := #[]
  resolved := Array.replicate 8 none
  statics := none }

/-- the primitive byte -/
def k8 : Class := { plain "byte" none with kind := .primitive 'B', accessFlags := 0x411 }
/-- [B -/
def k9 : Class := { plain "[B" (some 0) with kind := .array 8 .byte, interfaces := #[7, 4], accessFlags := 1041 }

/-- the primitive int -/
def k10 : Class := { plain "int" none with kind := .primitive 'I', accessFlags := 0x411 }
/-- [I -/
def k11 : Class := { plain "[I" (some 0) with kind := .array 10 .int, interfaces := #[7, 4], accessFlags := 1041 }

def heap : Heap := #[{ cls := 6, slots := #[.ref 1, .ref 2, .ref 4, .ref 3, .int 0, .int 0, .null], vm := .statics 6 },
  { cls := 6, slots := #[.null, .int 0, .int 0, .null, .null, .int 0], vm := .none },
  { cls := 6, slots := #[.null, .int 1, .int 0, .null, .null, .int 0], vm := .none },
  { cls := 6, slots := #[.null, .int 2, .int 0, .null, .null, .int 1], vm := .none },
  { cls := 6, slots := #[.null, .int 3, .int 0, .null, .null, .int 1], vm := .none }]
def classes : Array Class := #[k0, k1, k2, k3, k4, k5, k6, k7, k8, k9, k10, k11]
def interned : List (Array UInt16 × Addr) := []
def slotsUsed : Nat := 31
def theMethod : MethodId := ⟨1, 1⟩
def args0 : Array Value := #[.int 1, .int 2, .int 3]
def aboutOver (below : List Frame) : State where
  vm := { classes := classes, interned := interned.toArray }
  heap := heap
  slotsUsed := slotsUsed
  threads := #[{ frames := .invoking theMethod args0 :: below }]
def below0 : List Frame := [.native { method := ⟨0, 0⟩, args := #[] }]
def about1 : State := aboutOver below0
def p0 : Program := .bare "" "" ""
def e0 : Env := launch0.env 0 0 0
theorem w_frames : about1.frames = Frame.invoking theMethod args0 :: below0 := rfl
set_option maxRecDepth 65536 in
theorem w_args : argsFit about1.vm theMethod args0 = true := by decide +kernel
set_option maxRecDepth 65536 in
theorem w_heap : heapFits about1 = true := by decide +kernel
set_option maxRecDepth 65536 in
theorem w_runnable : about1.curStatus? = some .runnable := by decide +kernel
set_option maxRecDepth 65536 in
theorem w_alone : about1.alone = true := by decide +kernel
set_option maxRecDepth 65536 in
theorem w_named : about1.methodNamed? x = some theMethod := by decide +kernel
set_option maxRecDepth 65536 in
theorem w_hears : about1.hears theMethod below0 = true := by decide +kernel
set_option maxRecDepth 65536 in
theorem w_ripe : about1.ripe theMethod args0 below0 = true := by decide +kernel
theorem w_running : about1.status = .running := rfl
set_option maxRecDepth 65536 in
theorem w_room : about1.hasRoom e0.platform room_1 = true :=
  launch0.hasRoom_least _ room_1 (by decide +kernel) (by decide +kernel) (by decide +kernel) (by decide +kernel) (by decide +kernel) (by decide +kernel)
theorem allAtoms_all (ts : List Jvm.Cond) (a : Array Jvm.Value) (st : Jvm.State) : (allAtoms ts).before a st = ts.all (fun c => c.before a st) := by
  induction ts with
  | nil => rfl
  | cons c t ih =>
    show (Jvm.Cond.and c (allAtoms t)).before a st = _
    rw [Jvm.Cond.before_and, ih, List.all_cons]
def words1 : List Jvm.Cond := Jvm.Cond.code x code maxLocals ret :: tables_1
/-- a 'code' word, met by the world's own term for the bytes: nothing is compared byte by byte -/
theorem code_word {y : MethodName} {bytes : ByteArray} {mx : Nat} {rt : Option FieldType} {a : Array Value} {s : State} {m : MethodId} {meth : Method} {c : Code} (h1 : s.methodNamed? y = some m) (h2 : s.vm.method? m = some meth) (h3 : meth.code = some c) (h4 : c.code = bytes)
    (h5 : (c.maxLocals == mx && c.exceptionTable.isEmpty && decide (c.maxStack ≤ mostOperands) && decide (meth.sig.returnType = rt) && !meth.locks && decide (parseMethodDescriptor y.desc = some meth.sig)) = true) : (Jvm.Cond.code y bytes mx rt).before a s = true := by
  simp only [Bool.and_eq_true, beq_iff_eq, Bool.not_eq_true', decide_eq_true_eq] at h5
  obtain ⟨⟨⟨⟨⟨g1, g2⟩, g3⟩, g4⟩, g5⟩, g6⟩ := h5
  simp [Cond.before, Cond.holds, Cond.value, h1, h2, h3, h4, g1, g2, g3, g4, g5, g6]
def isCode : Jvm.Cond → Bool
  | .code _ _ _ _ => true
  | _ => false
theorem all_split {L : List Jvm.Cond} {P : Jvm.Cond → Bool} (h1 : L.all (fun c => isCode c || P c) = true) (h2 : ∀ c ∈ L.filter isCode, P c = true) : L.all P = true := by
  refine List.all_eq_true.mpr fun c hc => ?_
  have h := List.all_eq_true.mp h1 c hc
  rcases Bool.eq_false_or_eq_true (isCode c) with hi | hi
  · exact h2 c (List.mem_filter.mpr ⟨hc, hi⟩)
  · simpa [hi] using h
set_option maxRecDepth 65536 in
theorem w_c0 : (Jvm.Cond.code x code maxLocals ret).before args0 about1 = true := code_word (m := ⟨1, 1⟩) (meth := k1m1) (c := k1c1) (by decide +kernel) rfl rfl rfl (by decide +kernel)
set_option maxRecDepth 65536 in
theorem w_c1 : (Jvm.Cond.code ({ cls := "com/example/rollhaus/rollhaus/scorecard/Card", name := "upperBonus", desc := "(I)I" } : Jvm.MethodName) prog_28_method_11_code (2 : Nat) (Option.some Jvm.ClassFile.FieldType.int)).before args0 about1 = true := code_word (m := ⟨6, 0⟩) (meth := k6m0) (c := k6c0) (by decide +kernel) rfl rfl rfl (by decide +kernel)
set_option maxRecDepth 65536 in
theorem w_c2 : (Jvm.Cond.code ({ cls := "com/example/rollhaus/rollhaus/scorecard/CardUpperBonusPinLaw", name := "expected", desc := "(ZI)I" } : Jvm.MethodName) method_3_code (2 : Nat) (Option.some Jvm.ClassFile.FieldType.int)).before args0 about1 = true := code_word (m := ⟨1, 2⟩) (meth := k1m2) (c := k1c2) (by decide +kernel) rfl rfl rfl (by decide +kernel)
def codes1 : List Jvm.Cond := [Jvm.Cond.code x code maxLocals ret, Jvm.Cond.code ({ cls := "com/example/rollhaus/rollhaus/scorecard/Card", name := "upperBonus", desc := "(I)I" } : Jvm.MethodName) prog_28_method_11_code (2 : Nat) (Option.some Jvm.ClassFile.FieldType.int), Jvm.Cond.code ({ cls := "com/example/rollhaus/rollhaus/scorecard/CardUpperBonusPinLaw", name := "expected", desc := "(ZI)I" } : Jvm.MethodName) method_3_code (2 : Nat) (Option.some Jvm.ClassFile.FieldType.int)]
set_option maxRecDepth 65536 in
theorem codes_eq : words1.filter isCode = codes1 := rfl
theorem w_codes : ∀ c ∈ words1.filter isCode, c.before args0 about1 = true := by
  rw [codes_eq]
  intro c hc
  simp only [codes1, List.mem_cons, List.not_mem_nil, or_false] at hc
  rcases hc with rfl | rfl | rfl
  · exact w_c0
  · exact w_c1
  · exact w_c2
set_option maxRecDepth 65536 in
theorem w_t1 : words1.all (fun c => isCode c || c.before args0 about1) = true := by decide +kernel
theorem w_tables : (allAtoms (Jvm.Cond.code x code maxLocals ret :: tables_1)).before args0 about1 = true := by
  rw [allAtoms_all]
  show words1.all (fun c => c.before args0 about1) = true
  refine all_split ?_ w_codes
  rw [w_t1]
set_option maxRecDepth 65536 in
theorem w_case : (Jvm.Cond.and given_1 narrow_1).before args0 about1 = true := by decide +kernel
theorem w_applies : (headSpec (Jvm.Cond.code x code maxLocals ret :: tables_1) room_1).applies x e0.platform about1 = true :=
  (Spec.applies_iff w_frames).mpr ⟨w_running, w_runnable, w_alone, w_named, w_hears, w_ripe, w_room, w_tables⟩
theorem atStart : AtStart classFile x code maxLocals ret World_1 tables_1 room_1 Calls_1 rest_1 Pre_1 launch0 p0 e0 about1 theMethod args0 below0 :=
  ⟨lists_1, trivial, launch0.admits_env _ _ _, launch0.least_env, fairChoices_fair.cas, fairChoices_fair.clock, w_frames, w_args, w_heap, w_applies, trivial, trivial, w_case⟩
end start1
theorem witness_1 : WitnessClaimed_1 := ⟨start1.p0, start1.e0, start1.about1, start1.theMethod, start1.args0, start1.below0, start1.atStart⟩
end Jvm.Pilot.@@N@@
