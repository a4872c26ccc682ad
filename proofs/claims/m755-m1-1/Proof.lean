import JvmDerived
import JvmDerived.Pilot.@@N@@Statement
import JvmDerived.Pilot.@@N@@Code
set_option linter.unusedVariables false
set_option linter.unusedSimpArgs false
namespace Jvm.Pilot.@@N@@
open Jvm Jvm.ClassFile Sem Op Lib Jvm.Free Jvm.Stand Jvm.LawKit Jvm.RoadKit Bundle Jvm.Pilot.@@N@@.Jvm.D
/-- from the state A the run comes to an end of which R holds -/
def own_Fin (tb : Tables) (e : Env) (below : List Frame) (A : State) (R : State → Outcome → Prop) : Prop := ∃ s₂ o, Steps tb e below A s₂ ∧ R s₂ o
theorem own_in {tb : Tables} {e : Env} {below : List Frame} {A : State} {R : State → Outcome → Prop} (h : own_Fin tb e below A R) : ∃ s₂ o, Steps tb e below A s₂ ∧ R s₂ o := h
theorem own_go {tb : Tables} {e : Env} {below : List Frame} {A B : State} {R : State → Outcome → Prop} (st : ∀ t, Steps tb e below B t → Steps tb e below A t) (h : own_Fin tb e below B R) : own_Fin tb e below A R := by
  obtain ⟨s₂, o, h1, h2⟩ := h
  exact ⟨s₂, o, st _ h1, h2⟩
theorem own_beqT {P : Prop} [Decidable P] (h : ¬ P) : ifCond.holds .eq (if P then (1 : Int32) else 0) = true := by rw [if_neg h]; rfl
theorem own_beqF {P : Prop} [Decidable P] (h : P) : ifCond.holds .eq (if P then (1 : Int32) else 0) = false := by rw [if_pos h]; rfl
theorem own_bneT {P : Prop} [Decidable P] (h : P) : ifCond.holds .ne (if P then (1 : Int32) else 0) = true := by rw [if_pos h]; rfl
theorem own_bneF {P : Prop} [Decidable P] (h : ¬ P) : ifCond.holds .ne (if P then (1 : Int32) else 0) = false := by rw [if_neg h]; rfl
theorem own_bEq {P R : Prop} [Decidable P] [Decidable R] (h : P ↔ R) : (if P then (1 : Int32) else 0) = (if R then (1 : Int32) else 0) := by
  by_cases p : P
  · rw [if_pos p, if_pos (h.mp p)]
  · rw [if_neg p, if_neg fun r => p (h.mpr r)]
theorem own_bNe {P R : Prop} [Decidable P] [Decidable R] (h : ¬ (P ↔ R)) : ¬ (if P then (1 : Int32) else 0) = (if R then (1 : Int32) else 0) := by
  intro q
  apply h
  by_cases p : P <;> by_cases r : R
  · exact ⟨fun _ => r, fun _ => p⟩
  · rw [if_pos p, if_neg r] at q; exact absurd q (by decide)
  · rw [if_neg p, if_pos r] at q; exact absurd q (by decide)
  · exact ⟨fun x => absurd x p, fun x => absurd x r⟩
theorem own_fitB {P : Prop} [Decidable P] : fits .boolean (.int (if P then (1 : Int32) else 0)) = true := by by_cases p : P <;> simp only [p, if_true, if_false] <;> rfl
theorem own_narB {P : Prop} [Decidable P] : narrow .boolean (.int (if P then (1 : Int32) else 0)) = .int (if P then (1 : Int32) else 0) := by by_cases p : P <;> simp only [p, if_true, if_false] <;> rfl
theorem own_eqI {args : Array Value} {s : State} {t : Term} {k : Int32} (h : (Cond.eq t (.int k)).value args s none s [] = some true) : t.eval args s none [] s = some (.int k) := by
  cases e : t.eval args s none [] s with
  | none => simp [Cond.value, e] at h
  | some v => cases v <;> simp_all [Cond.value, Term.eval]
theorem d1_0 : decode prog_22_method_4_code 0 = .ok (.aload_n 0, 1) := by decide +kernel
theorem d1_1 : decode prog_22_method_4_code 1 = .ok (.getfield 36, 3) := by decide +kernel
theorem d1_4 : decode prog_22_method_4_code 4 = .ok (.aload_n 0, 1) := by decide +kernel
theorem d1_5 : decode prog_22_method_4_code 5 = .ok (.getfield 33, 3) := by decide +kernel
theorem d1_8 : decode prog_22_method_4_code 8 = .ok (.isub, 1) := by decide +kernel
theorem d1_9 : decode prog_22_method_4_code 9 = .ok (.iconst 2, 1) := by decide +kernel
theorem d1_10 : decode prog_22_method_4_code 10 = .ok (.iadd, 1) := by decide +kernel
theorem d1_11 : decode prog_22_method_4_code 11 = .ok (.i2l, 1) := by decide +kernel
theorem d1_12 : decode prog_22_method_4_code 12 = .ok (.aload_n 0, 1) := by decide +kernel
theorem d1_13 : decode prog_22_method_4_code 13 = .ok (.getfield 29, 3) := by decide +kernel
theorem d1_16 : decode prog_22_method_4_code 16 = .ok (.iconst 1, 1) := by decide +kernel
theorem d1_17 : decode prog_22_method_4_code 17 = .ok (.isub, 1) := by decide +kernel
theorem d1_18 : decode prog_22_method_4_code 18 = .ok (.lshl, 1) := by decide +kernel
theorem d1_19 : decode prog_22_method_4_code 19 = .ok (.lreturn, 1) := by decide +kernel
theorem pn1 : plainName "com/example/subsumption/subsumption/datatype/FloatingPoint" = true := by first | (simp [plainName, overriddenIn]; done) | decide +kernel
theorem ef1 (m : MethodId) (r0 : Addr) : entryFrame m #[(.ref r0)] 1 = mkF m 0 #[.val (.ref r0)] [] := by first | (simp [entryFrame, mkF, argsToLocals, Value.category]; done) | rfl
def Q1 (Z : State) (r0 : Addr) (u0 : Int32) (u1 : Int32) (u2 : Int32) (h0 : Heap) (n0 : Nat) (v : Option Value) (h : Heap) (L : List Loc) : Prop := v = some (.long ((((u0 - u1) + (2 : Int32)).toInt64) <<< ((u2 - (1 : Int32)) &&& 0x3f).toInt64)) ∧ Fr n0 L ∧ h = h0
set_option maxRecDepth 65536 in
set_option maxHeartbeats 40000000 in
theorem rm1 (l : Launch) (Z : State) (a0 : Array Value) (hw : ∀ d ∈ tables_1, d.before a0 Z = true) (ws : List Jvm.Cond) (r0 : Addr) (u0 : Int32) (u1 : Int32) (u2 : Int32) (h0 : Heap) (n0 : Nat) (Z0 : n0 ≤ h0.size) (F_greatestExponent : Fld Z h0 r0 "com/example/subsumption/subsumption/datatype/FloatingPoint" "greatestExponent" "I" (.int u0)) (F_leastExponent : Fld Z h0 r0 "com/example/subsumption/subsumption/datatype/FloatingPoint" "leastExponent" "I" (.int u1)) (F_precision : Fld Z h0 r0 "com/example/subsumption/subsumption/datatype/FloatingPoint" "precision" "I" (.int u2)) :
    MetFree l (⟨"com/example/subsumption/subsumption/datatype/FloatingPoint", "infinity", "()J"⟩ : MethodName) (head1 (Jvm.Cond.code (⟨"com/example/subsumption/subsumption/datatype/FloatingPoint", "infinity", "()J"⟩ : MethodName) prog_22_method_4_code 1 (some .long) :: ws) ({ frames := 0, cells := 0, slots := 0, locals := 0 } : Room)) (fun a U => a = #[(.ref r0)] ∧ Z.Warmed39 U.vm ∧ U.heap = h0) (fun _ _ _ _ _ => True) (fun _ U o U' => ∃ v L, o = .returned v ∧ Q1 Z r0 u0 u1 u2 h0 n0 v U'.heap L ∧ FrameEnd U o U' L ({ frames := 0, cells := 0, slots := 0, locals := 0 } : Room).cells ({ frames := 0, cells := 0, slots := 0, locals := 0 } : Room).slots) := by
  refine MetFree.of_bodySF (plainFor_of_name pn1) hisR ?_
  intro p e s m args below meth c s₁ Bd hml0 hP hK
  obtain ⟨rfl, hZ, hh⟩ := hP
  have hx := Bd.exec
  have hby := Bd.bytes
  have hml : c.maxLocals = 1 := hml0
  have hown : s.vm.findClass "com/example/subsumption/subsumption/datatype/FloatingPoint" = some m.cls := findClass_of_methodNamed Bd.named
  have hnm := (name_of_methodNamed Bd.named Bd.method).1
  have X0 : Stand p l e ({ frames := 0, cells := 0, slots := 0, locals := 0 } : Room) s m #[(.ref r0)] below meth c s₁ [] 0 0 := Stand.of_body Bd
  have e0 : s₁.heap = h0 := by rw [← hh, Bd.state]; rfl
  have N0 := Fr.nil n0
  have K0 : Keep h0 h0 [] := Keep.refl h0 _
  refine own_in ?_
  refine own_go (B := s₁.setTop (mkF m 0 #[.val (.ref r0)] [])) (fun t k => castTop (ef1 m r0) k) ?_
  refine own_go (B := s₁.setTop (mkF m 1 #[.val (.ref r0)] [(.ref r0)])) (fun t k => ?_) ?_
  · show Steps p.tables e below (s₁.setTop (mkF m 0 #[.val (.ref r0)] [])) t
    refine XS.aloadN X0.here hx rfl (hb hby d1_0) rfl rfl ?_
    exact k
  obtain ⟨T1, X1, e1, st1⟩ := getF X0 hx hZ hown (host := "") (Or.inl (hw _ (List.mem_of_getElem? (i := 9) rfl))) Via.refl e0 F_greatestExponent (g := (mkF m 1 #[.val (.ref r0)] [(.ref r0)])) rfl rfl (hb hby d1_1)
  refine own_go st1 ?_
  show own_Fin p.tables e below (T1.setTop (mkF m 4 #[.val (.ref r0)] [(.int u0)])) _
  refine own_go (B := T1.setTop (mkF m 5 #[.val (.ref r0)] [(.ref r0), (.int u0)])) (fun t k => ?_) ?_
  · show Steps p.tables e below (T1.setTop (mkF m 4 #[.val (.ref r0)] [(.int u0)])) t
    refine XS.aloadN X1.here hx rfl (hb hby d1_4) rfl rfl ?_
    exact k
  obtain ⟨T2, X2, e2, st2⟩ := getF X1 hx hZ hown (host := "") (Or.inl (hw _ (List.mem_of_getElem? (i := 11) rfl))) Via.refl e1 F_leastExponent (g := (mkF m 5 #[.val (.ref r0)] [(.ref r0), (.int u0)])) rfl rfl (hb hby d1_5)
  refine own_go st2 ?_
  show own_Fin p.tables e below (T2.setTop (mkF m 8 #[.val (.ref r0)] [(.int u1), (.int u0)])) _
  refine own_go (B := T2.setTop (mkF m 13 #[.val (.ref r0)] [(.ref r0), (.long (((u0 - u1) + (2 : Int32)).toInt64))])) (fun t k => ?_) ?_
  · show Steps p.tables e below (T2.setTop (mkF m 8 #[.val (.ref r0)] [(.int u1), (.int u0)])) t
    refine XS.isub X2.here hx rfl (hb hby d1_8) rfl ?_
    refine XS.iconst X2.here hx rfl (hb hby d1_9) ?_
    refine XS.iadd X2.here hx rfl (hb hby d1_10) rfl ?_
    refine XS.i2l X2.here hx rfl (hb hby d1_11) rfl ?_
    show Steps p.tables e below (T2.setTop (mkF m 12 #[.val (.ref r0)] [(.long (((u0 - u1) + (2 : Int32)).toInt64))])) t
    refine XS.aloadN X2.here hx rfl (hb hby d1_12) rfl rfl ?_
    exact k
  obtain ⟨T3, X3, e3, st3⟩ := getF X2 hx hZ hown (host := "") (Or.inl (hw _ (List.mem_of_getElem? (i := 13) rfl))) Via.refl e2 F_precision (g := (mkF m 13 #[.val (.ref r0)] [(.ref r0), (.long (((u0 - u1) + (2 : Int32)).toInt64))])) rfl rfl (hb hby d1_13)
  refine own_go st3 ?_
  show own_Fin p.tables e below (T3.setTop (mkF m 16 #[.val (.ref r0)] [(.int u2), (.long (((u0 - u1) + (2 : Int32)).toInt64))])) _
  refine own_go (B := T3.setTop (mkF m 19 #[.val (.ref r0)] [(.long ((((u0 - u1) + (2 : Int32)).toInt64) <<< ((u2 - (1 : Int32)) &&& 0x3f).toInt64))])) (fun t k => ?_) ?_
  · show Steps p.tables e below (T3.setTop (mkF m 16 #[.val (.ref r0)] [(.int u2), (.long (((u0 - u1) + (2 : Int32)).toInt64))])) t
    refine XS.iconst X3.here hx rfl (hb hby d1_16) ?_
    refine XS.isub X3.here hx rfl (hb hby d1_17) rfl ?_
    refine XS.lshl X3.here hx rfl (hb hby d1_18) rfl ?_
    exact k
  obtain ⟨fs, hr, hrun, hended, hW, hsame⟩ := X3.leave (v := some (.long ((((u0 - u1) + (2 : Int32)).toInt64) <<< ((u2 - (1 : Int32)) &&& 0x3f).toInt64))) (fun h => by rw [Bd.returns] at h; cases h)
  refine ⟨_, _, ?_, hrun, hended, _, _, rfl, ?_, ⟨_, rfl⟩, hW, hsame.mono (by decide) (by decide)⟩
  · exact retOut X3 hx (t := .long) Bd.returns rfl (Or.inr (Or.inl ⟨rfl, rfl, _, rfl⟩)) (hb hby d1_19) hr
  · show Q1 Z r0 u0 u1 u2 h0 n0 _ T3.heap _
    rw [e3]
    exact ⟨rfl, N0, rfl⟩
theorem pn0 : plainName "com/example/subsumption/subsumption/datatype/FloatingPointInfinityPinLaw" = true := by first | (simp [plainName, overriddenIn]; done) | decide +kernel
theorem pd0_0 : parseMethodDescriptor "()J" = some ⟨[], some .long⟩ := by decide +kernel
theorem ef0 (m : MethodId) (p0 : Int32) : entryFrame m #[(.int p0)] maxLocals = mkF m 0 #[.val (.int p0), .unset, .unset, .unset, .unset] [] := by first | (simp [entryFrame, mkF, argsToLocals, Value.category, maxLocals]; done) | rfl
def Q0 (Z : State) (p0 : Int32) (fa : Addr) (fb : Addr) (h0 : Heap) (n0 : Nat) (v : Option Value) (h : Heap) (L : List Loc) : Prop := v = some (.int 1) ∧ Fr n0 L
set_option maxRecDepth 65536 in
set_option maxHeartbeats 40000000 in
theorem rm0 (l : Launch) (Z : State) (a0 : Array Value) (hw : ∀ d ∈ tables_1, d.before a0 Z = true) (ws : List Jvm.Cond) (p0 : Int32) (fa : Addr) (fb : Addr) (h0 : Heap) (n0 : Nat) (Z0 : n0 ≤ h0.size) (O0 : Old Z n0 h0) (S_FLOAT : Sta Z Z.heap "com/example/subsumption/subsumption/datatype/FloatingPoint" "FLOAT" "Lcom/example/subsumption/subsumption/datatype/FloatingPoint;" (.ref fa)) (E_fa : Exa Z h0 fa "com/example/subsumption/subsumption/datatype/FloatingPoint") (F_greatestExponent_fa : Fld Z h0 fa "com/example/subsumption/subsumption/datatype/FloatingPoint" "greatestExponent" "I" (.int (104 : Int32))) (F_leastExponent_fa : Fld Z h0 fa "com/example/subsumption/subsumption/datatype/FloatingPoint" "leastExponent" "I" (.int (-149 : Int32))) (F_precision_fa : Fld Z h0 fa "com/example/subsumption/subsumption/datatype/FloatingPoint" "precision" "I" (.int (24 : Int32))) (S_DOUBLE : Sta Z Z.heap "com/example/subsumption/subsumption/datatype/FloatingPoint" "DOUBLE" "Lcom/example/subsumption/subsumption/datatype/FloatingPoint;" (.ref fb)) (E_fb : Exa Z h0 fb "com/example/subsumption/subsumption/datatype/FloatingPoint") (F_greatestExponent_fb : Fld Z h0 fb "com/example/subsumption/subsumption/datatype/FloatingPoint" "greatestExponent" "I" (.int (971 : Int32))) (F_leastExponent_fb : Fld Z h0 fb "com/example/subsumption/subsumption/datatype/FloatingPoint" "leastExponent" "I" (.int (-1074 : Int32))) (F_precision_fb : Fld Z h0 fb "com/example/subsumption/subsumption/datatype/FloatingPoint" "precision" "I" (.int (53 : Int32))) :
    MetFree l x (head1 (Jvm.Cond.code x code maxLocals ret :: ws) room_1) (fun a U => a = #[(.int p0)] ∧ Z.Warmed39 U.vm ∧ U.heap = h0) (fun _ _ _ _ _ => True) (fun _ U o U' => ∃ v L, o = .returned v ∧ Q0 Z p0 fa fb h0 n0 v U'.heap L ∧ FrameEnd U o U' L room_1.cells room_1.slots) := by
  refine MetFree.of_bodySF (plainFor_of_name pn0) hisR ?_
  intro p e s m args below meth c s₁ Bd hml0 hP hK
  obtain ⟨rfl, hZ, hh⟩ := hP
  have hx := Bd.exec
  have hby := Bd.bytes
  have hml : c.maxLocals = 5 := hml0
  have hown : s.vm.findClass "com/example/subsumption/subsumption/datatype/FloatingPointInfinityPinLaw" = some m.cls := findClass_of_methodNamed Bd.named
  have hnm := (name_of_methodNamed Bd.named Bd.method).1
  have X0 : Stand p l e room_1 s m #[(.int p0)] below meth c s₁ [] 0 0 := Stand.of_body Bd
  have e0 : s₁.heap = h0 := by rw [← hh, Bd.state]; rfl
  have N0 := Fr.nil n0
  have K0 : Keep h0 h0 [] := Keep.refl h0 _
  refine own_in ?_
  refine own_go (B := s₁.setTop (mkF m 0 #[.val (.int p0), .unset, .unset, .unset, .unset] [])) (fun t k => castTop (ef0 m p0) k) ?_
  refine own_go (B := s₁.setTop (mkF m 3 #[.val (.int p0), .unset, .unset, .unset, .unset] [(.int (p0 &&& (1 : Int32)))])) (fun t k => ?_) ?_
  · show Steps p.tables e below (s₁.setTop (mkF m 0 #[.val (.int p0), .unset, .unset, .unset, .unset] [])) t
    refine XS.iloadN X0.here hx rfl (hb hby at_0) rfl ?_
    refine XS.iconst X0.here hx rfl (hb hby at_1) ?_
    refine XS.iand X0.here hx rfl (hb hby at_2) rfl ?_
    exact k
  refine own_go (B := s₁.setTop (mkF m 11 #[.val (.int p0), .unset, .unset, .unset, .unset] [(.int (if (p0 &&& (1 : Int32)) = (0 : Int32) then (1 : Int32) else 0))])) (fun t k => ?_) ?_
  · skip
    show Steps p.tables e below (s₁.setTop (mkF m 3 #[.val (.int p0), .unset, .unset, .unset, .unset] [(.int (p0 &&& (1 : Int32)))])) t
    by_cases hd1 : (p0 &&& (1 : Int32)) = (0 : Int32)
    · refine XS.ifNo X0.here hx rfl (hb hby at_3) rfl ((if0 _ _).trans (teq hd1).2) ?_
      show Steps p.tables e below (s₁.setTop (mkF m 6 #[.val (.int p0), .unset, .unset, .unset, .unset] [])) t
      refine XS.iconst X0.here hx rfl (hb hby at_6) ?_
      show Steps p.tables e below (s₁.setTop (mkF m 7 #[.val (.int p0), .unset, .unset, .unset, .unset] [(.int (1 : Int32))])) t
      refine XS.goto X0.here hx rfl (pc0 := 7) (pc' := 11) rfl (hb hby at_7) (by decide) (by decide) ?_
      show Steps p.tables e below (s₁.setTop (mkF m 11 #[.val (.int p0), .unset, .unset, .unset, .unset] [(.int (1 : Int32))])) t
      exact (congrArg (fun z => Steps p.tables e below (s₁.setTop (mkF m 11 #[.val (.int p0), .unset, .unset, .unset, .unset] [(.int z)])) t) (if_pos hd1)).mp k
    · refine XS.ifYes X0.here hx rfl (pc0 := 3) (pc' := 10) rfl (hb hby at_3) rfl ((if0 _ _).trans (feq hd1).2) (by decide) (by decide) ?_
      show Steps p.tables e below (s₁.setTop (mkF m 10 #[.val (.int p0), .unset, .unset, .unset, .unset] [])) t
      refine XS.iconst X0.here hx rfl (hb hby at_10) ?_
      show Steps p.tables e below (s₁.setTop (mkF m 11 #[.val (.int p0), .unset, .unset, .unset, .unset] [(.int (0 : Int32))])) t
      exact (congrArg (fun z => Steps p.tables e below (s₁.setTop (mkF m 11 #[.val (.int p0), .unset, .unset, .unset, .unset] [(.int z)])) t) (if_neg hd1)).mp k
  refine own_go (B := s₁.setTop (mkF m 13 #[.val (.int p0), .val (.int (if (p0 &&& (1 : Int32)) = (0 : Int32) then (1 : Int32) else 0)), .unset, .unset, .unset] [(.int (if (p0 &&& (1 : Int32)) = (0 : Int32) then (1 : Int32) else 0))])) (fun t k => ?_) ?_
  · show Steps p.tables e below (s₁.setTop (mkF m 11 #[.val (.int p0), .unset, .unset, .unset, .unset] [(.int (if (p0 &&& (1 : Int32)) = (0 : Int32) then (1 : Int32) else 0))])) t
    refine XS.istoreN X0.here hx rfl (hb hby at_11) rfl (l' := #[.val (.int p0), .val (.int (if (p0 &&& (1 : Int32)) = (0 : Int32) then (1 : Int32) else 0)), .unset, .unset, .unset]) rfl ?_
    refine XS.iloadN X0.here hx rfl (hb hby at_12) rfl ?_
    exact k
  by_cases hc2 : (p0 &&& (1 : Int32)) = (0 : Int32)
  · skip
    refine own_go (B := s₁.setTop (mkF m 16 #[.val (.int p0), .val (.int (if (p0 &&& (1 : Int32)) = (0 : Int32) then (1 : Int32) else 0)), .unset, .unset, .unset] [])) (fun t k => ?_) ?_
    · show Steps p.tables e below (s₁.setTop (mkF m 13 #[.val (.int p0), .val (.int (if (p0 &&& (1 : Int32)) = (0 : Int32) then (1 : Int32) else 0)), .unset, .unset, .unset] [(.int (if (p0 &&& (1 : Int32)) = (0 : Int32) then (1 : Int32) else 0))])) t
      refine XS.ifNo X0.here hx rfl (hb hby at_13) rfl (own_beqF hc2) ?_
      exact k
    obtain ⟨T3, X3, e3, st3⟩ := getS2 X0 hx hZ hown (host := "") (Or.inl (hw _ (List.mem_of_getElem? (i := 0) rfl))) Via.refl e0 (S_FLOAT.ext O0.2) (g := (mkF m 16 #[.val (.int p0), .val (.int (if (p0 &&& (1 : Int32)) = (0 : Int32) then (1 : Int32) else 0)), .unset, .unset, .unset] [])) rfl (hb hby at_16)
    refine own_go st3 ?_
    show own_Fin p.tables e below (T3.setTop (mkF m 19 #[.val (.int p0), .val (.int (if (p0 &&& (1 : Int32)) = (0 : Int32) then (1 : Int32) else 0)), .unset, .unset, .unset] [(.ref fa)])) _
    refine own_go (B := T3.setTop (mkF m 41 #[.val (.int p0), .val (.int (if (p0 &&& (1 : Int32)) = (0 : Int32) then (1 : Int32) else 0)), .val (.ref fa), .val (.long (2139095040 : Int64)), .second] [(.ref fa)])) (fun t k => ?_) ?_
    · show Steps p.tables e below (T3.setTop (mkF m 19 #[.val (.int p0), .val (.int (if (p0 &&& (1 : Int32)) = (0 : Int32) then (1 : Int32) else 0)), .unset, .unset, .unset] [(.ref fa)])) t
      refine XS.goto X3.here hx rfl (pc0 := 19) (pc' := 25) rfl (hb hby at_19) (by decide) (by decide) ?_
      refine XS.astoreN X3.here hx rfl (hb hby at_25) rfl rfl (l' := #[.val (.int p0), .val (.int (if (p0 &&& (1 : Int32)) = (0 : Int32) then (1 : Int32) else 0)), .val (.ref fa), .unset, .unset]) rfl ?_
      refine XS.iloadN X3.here hx rfl (hb hby at_26) rfl ?_
      refine XS.ifNo X3.here hx rfl (hb hby at_27) rfl (own_beqF hc2) ?_
      show Steps p.tables e below (T3.setTop (mkF m 30 #[.val (.int p0), .val (.int (if (p0 &&& (1 : Int32)) = (0 : Int32) then (1 : Int32) else 0)), .val (.ref fa), .unset, .unset] [])) t
      refine X3.ldc2J hx hown (mvT hZ (hw _ (List.mem_of_getElem? (i := 3) rfl))) rfl (hb hby at_30) ?_
      refine XS.goto X3.here hx rfl (pc0 := 33) (pc' := 39) rfl (hb hby at_33) (by decide) (by decide) ?_
      refine XS.lstoreN X3.here hx rfl (hb hby at_39) rfl (l' := #[.val (.int p0), .val (.int (if (p0 &&& (1 : Int32)) = (0 : Int32) then (1 : Int32) else 0)), .val (.ref fa), .val (.long (2139095040 : Int64)), .second]) rfl ?_
      refine XS.aloadN X3.here hx rfl (hb hby at_40) rfl rfl ?_
      exact k
    obtain ⟨cq4, kq4, q4a, q4b, q4c⟩ := isOf hZ e3 E_fa
    obtain ⟨_, _, ⟨T4, L4, k4, n4⟩, -, X4, ⟨Lc4, hQ4, l4, y4, z4⟩, st4⟩ := X3.virtualBack hx (y := (⟨"com/example/subsumption/subsumption/datatype/FloatingPoint", "infinity", "()J"⟩ : MethodName)) (z := (⟨"com/example/subsumption/subsumption/datatype/FloatingPoint", "infinity", "()J"⟩ : MethodName)) hown (mvT hZ (hw _ (List.mem_of_getElem? (i := 4) rfl))) (mvT hZ (hw _ (List.mem_of_getElem? (i := 5) rfl))) (notFace_of_selects (args := #[]) (mvT hZ (hw _ (List.mem_of_getElem? (i := 7) rfl)))) (mvT hZ (hw _ (List.mem_of_getElem? (i := 7) rfl))) (mvT hZ (hw _ (List.mem_of_getElem? (i := 6) rfl))) (by decide) (backOf (W := 0) (rm1 l Z a0 hw [] fa (104 : Int32) (-149 : Int32) (24 : Int32) h0 n0 Z0 F_greatestExponent_fa F_leastExponent_fa F_precision_fa) hZ (hw _ (List.mem_of_getElem? (i := 8) rfl)) (hw _ (List.mem_of_getElem? (i := 1) rfl)) (by decide) (by decide)) q4a q4c (g := (mkF m 41 #[.val (.int p0), .val (.int (if (p0 &&& (1 : Int32)) = (0 : Int32) then (1 : Int32) else 0)), .val (.ref fa), .val (.long (2139095040 : Int64)), .second] [(.ref fa)])) rfl (by rw [hml]; rfl) (Steps.refl _) (argsL := []) (rest := []) (lenOf pd0_0 rfl) rfl (by show 2 * 0 + _ ≤ _; exact Nat.le_of_eq rfl) (hb hby at_41) (fun _ _ => ⟨rfl, e3, (by decide : 0 + 0 ≤ _), (by decide : 0 + 0 ≤ _)⟩)
    dsimp only [Pt.U, Pt.locs, Pt.cells, Pt.slots] at X4 l4 y4 z4 st4 hQ4
    subst l4 y4 z4
    obtain ⟨rfl, N4q, e4⟩ := hQ4
    have N4 := Fr.app N0 N4q
    refine own_go (fun _ k => st4.trans k) ?_
    show own_Fin p.tables e below (T4.setTop (mkF m 44 #[.val (.int p0), .val (.int (if (p0 &&& (1 : Int32)) = (0 : Int32) then (1 : Int32) else 0)), .val (.ref fa), .val (.long (2139095040 : Int64)), .second] [(.long (((((104 : Int32) - (-149 : Int32)) + (2 : Int32)).toInt64) <<< (((24 : Int32) - (1 : Int32)) &&& 0x3f).toInt64))])) _
    refine own_go (B := T4.setTop (mkF m 46 #[.val (.int p0), .val (.int (if (p0 &&& (1 : Int32)) = (0 : Int32) then (1 : Int32) else 0)), .val (.ref fa), .val (.long (2139095040 : Int64)), .second] [(.int (lcmpW (((((104 : Int32) - (-149 : Int32)) + (2 : Int32)).toInt64) <<< (((24 : Int32) - (1 : Int32)) &&& 0x3f).toInt64) (2139095040 : Int64)))])) (fun t k => ?_) ?_
    · show Steps p.tables e below (T4.setTop (mkF m 44 #[.val (.int p0), .val (.int (if (p0 &&& (1 : Int32)) = (0 : Int32) then (1 : Int32) else 0)), .val (.ref fa), .val (.long (2139095040 : Int64)), .second] [(.long (((((104 : Int32) - (-149 : Int32)) + (2 : Int32)).toInt64) <<< (((24 : Int32) - (1 : Int32)) &&& 0x3f).toInt64))])) t
      refine XS.lloadN X4.here hx rfl (hb hby at_44) rfl ?_
      refine XS.lcmp X4.here hx rfl (hb hby at_45) rfl ?_
      exact k
    have hc5 : (((((104 : Int32) - (-149 : Int32)) + (2 : Int32)).toInt64) <<< (((24 : Int32) - (1 : Int32)) &&& 0x3f).toInt64) = (2139095040 : Int64) := by decide +kernel
    refine own_go (B := T4.setTop (mkF m 54 #[.val (.int p0), .val (.int (if (p0 &&& (1 : Int32)) = (0 : Int32) then (1 : Int32) else 0)), .val (.ref fa), .val (.long (2139095040 : Int64)), .second] [(.int (1 : Int32))])) (fun t k => ?_) ?_
    · show Steps p.tables e below (T4.setTop (mkF m 46 #[.val (.int p0), .val (.int (if (p0 &&& (1 : Int32)) = (0 : Int32) then (1 : Int32) else 0)), .val (.ref fa), .val (.long (2139095040 : Int64)), .second] [(.int (lcmpW (((((104 : Int32) - (-149 : Int32)) + (2 : Int32)).toInt64) <<< (((24 : Int32) - (1 : Int32)) &&& 0x3f).toInt64) (2139095040 : Int64)))])) t
      refine XS.ifNo X4.here hx rfl (hb hby at_46) rfl ((if0 _ _).trans (teq ((lw_eq _ _).mpr hc5)).2) ?_
      refine XS.iconst X4.here hx rfl (hb hby at_49) ?_
      refine XS.goto X4.here hx rfl (pc0 := 50) (pc' := 54) rfl (hb hby at_50) (by decide) (by decide) ?_
      exact k
    obtain ⟨fs, hr, hrun, hended, hW, hsame⟩ := X4.leave (v := some (.int (1 : Int32))) (fun h => by rw [Bd.returns] at h; cases h)
    refine ⟨_, _, ?_, hrun, hended, _, _, rfl, ?_, ⟨_, rfl⟩, hW, hsame.mono (by decide) (by decide)⟩
    · exact retOut X4 hx (t := .boolean) Bd.returns rfl (Or.inl ⟨rfl, by simp, _, rfl⟩) (hb hby at_54) hr
    · show Q0 Z p0 fa fb h0 n0 _ T4.heap _
      rw [e4]
      exact ⟨rfl, N4⟩
  · skip
    refine own_go (B := s₁.setTop (mkF m 22 #[.val (.int p0), .val (.int (if (p0 &&& (1 : Int32)) = (0 : Int32) then (1 : Int32) else 0)), .unset, .unset, .unset] [])) (fun t k => ?_) ?_
    · show Steps p.tables e below (s₁.setTop (mkF m 13 #[.val (.int p0), .val (.int (if (p0 &&& (1 : Int32)) = (0 : Int32) then (1 : Int32) else 0)), .unset, .unset, .unset] [(.int (if (p0 &&& (1 : Int32)) = (0 : Int32) then (1 : Int32) else 0))])) t
      refine XS.ifYes X0.here hx rfl (pc0 := 13) (pc' := 22) rfl (hb hby at_13) rfl (own_beqT hc2) (by decide) (by decide) ?_
      exact k
    obtain ⟨T7, X7, e7, st7⟩ := getS2 X0 hx hZ hown (host := "") (Or.inl (hw _ (List.mem_of_getElem? (i := 15) rfl))) Via.refl e0 (S_DOUBLE.ext O0.2) (g := (mkF m 22 #[.val (.int p0), .val (.int (if (p0 &&& (1 : Int32)) = (0 : Int32) then (1 : Int32) else 0)), .unset, .unset, .unset] [])) rfl (hb hby at_22)
    refine own_go st7 ?_
    show own_Fin p.tables e below (T7.setTop (mkF m 25 #[.val (.int p0), .val (.int (if (p0 &&& (1 : Int32)) = (0 : Int32) then (1 : Int32) else 0)), .unset, .unset, .unset] [(.ref fb)])) _
    refine own_go (B := T7.setTop (mkF m 41 #[.val (.int p0), .val (.int (if (p0 &&& (1 : Int32)) = (0 : Int32) then (1 : Int32) else 0)), .val (.ref fb), .val (.long (9218868437227405312 : Int64)), .second] [(.ref fb)])) (fun t k => ?_) ?_
    · show Steps p.tables e below (T7.setTop (mkF m 25 #[.val (.int p0), .val (.int (if (p0 &&& (1 : Int32)) = (0 : Int32) then (1 : Int32) else 0)), .unset, .unset, .unset] [(.ref fb)])) t
      refine XS.astoreN X7.here hx rfl (hb hby at_25) rfl rfl (l' := #[.val (.int p0), .val (.int (if (p0 &&& (1 : Int32)) = (0 : Int32) then (1 : Int32) else 0)), .val (.ref fb), .unset, .unset]) rfl ?_
      refine XS.iloadN X7.here hx rfl (hb hby at_26) rfl ?_
      refine XS.ifYes X7.here hx rfl (pc0 := 27) (pc' := 36) rfl (hb hby at_27) rfl (own_beqT hc2) (by decide) (by decide) ?_
      refine X7.ldc2J hx hown (mvT hZ (hw _ (List.mem_of_getElem? (i := 17) rfl))) rfl (hb hby at_36) ?_
      show Steps p.tables e below (T7.setTop (mkF m 39 #[.val (.int p0), .val (.int (if (p0 &&& (1 : Int32)) = (0 : Int32) then (1 : Int32) else 0)), .val (.ref fb), .unset, .unset] [(.long (9218868437227405312 : Int64))])) t
      refine XS.lstoreN X7.here hx rfl (hb hby at_39) rfl (l' := #[.val (.int p0), .val (.int (if (p0 &&& (1 : Int32)) = (0 : Int32) then (1 : Int32) else 0)), .val (.ref fb), .val (.long (9218868437227405312 : Int64)), .second]) rfl ?_
      refine XS.aloadN X7.here hx rfl (hb hby at_40) rfl rfl ?_
      exact k
    obtain ⟨cq8, kq8, q8a, q8b, q8c⟩ := isOf hZ e7 E_fb
    obtain ⟨_, _, ⟨T8, L8, k8, n8⟩, -, X8, ⟨Lc8, hQ8, l8, y8, z8⟩, st8⟩ := X7.virtualBack hx (y := (⟨"com/example/subsumption/subsumption/datatype/FloatingPoint", "infinity", "()J"⟩ : MethodName)) (z := (⟨"com/example/subsumption/subsumption/datatype/FloatingPoint", "infinity", "()J"⟩ : MethodName)) hown (mvT hZ (hw _ (List.mem_of_getElem? (i := 4) rfl))) (mvT hZ (hw _ (List.mem_of_getElem? (i := 5) rfl))) (notFace_of_selects (args := #[]) (mvT hZ (hw _ (List.mem_of_getElem? (i := 7) rfl)))) (mvT hZ (hw _ (List.mem_of_getElem? (i := 7) rfl))) (mvT hZ (hw _ (List.mem_of_getElem? (i := 6) rfl))) (by decide) (backOf (W := 0) (rm1 l Z a0 hw [] fb (971 : Int32) (-1074 : Int32) (53 : Int32) h0 n0 Z0 F_greatestExponent_fb F_leastExponent_fb F_precision_fb) hZ (hw _ (List.mem_of_getElem? (i := 8) rfl)) (hw _ (List.mem_of_getElem? (i := 1) rfl)) (by decide) (by decide)) q8a q8c (g := (mkF m 41 #[.val (.int p0), .val (.int (if (p0 &&& (1 : Int32)) = (0 : Int32) then (1 : Int32) else 0)), .val (.ref fb), .val (.long (9218868437227405312 : Int64)), .second] [(.ref fb)])) rfl (by rw [hml]; rfl) (Steps.refl _) (argsL := []) (rest := []) (lenOf pd0_0 rfl) rfl (by show 2 * 0 + _ ≤ _; exact Nat.le_of_eq rfl) (hb hby at_41) (fun _ _ => ⟨rfl, e7, (by decide : 0 + 0 ≤ _), (by decide : 0 + 0 ≤ _)⟩)
    dsimp only [Pt.U, Pt.locs, Pt.cells, Pt.slots] at X8 l8 y8 z8 st8 hQ8
    subst l8 y8 z8
    obtain ⟨rfl, N8q, e8⟩ := hQ8
    have N8 := Fr.app N0 N8q
    refine own_go (fun _ k => st8.trans k) ?_
    show own_Fin p.tables e below (T8.setTop (mkF m 44 #[.val (.int p0), .val (.int (if (p0 &&& (1 : Int32)) = (0 : Int32) then (1 : Int32) else 0)), .val (.ref fb), .val (.long (9218868437227405312 : Int64)), .second] [(.long (((((971 : Int32) - (-1074 : Int32)) + (2 : Int32)).toInt64) <<< (((53 : Int32) - (1 : Int32)) &&& 0x3f).toInt64))])) _
    refine own_go (B := T8.setTop (mkF m 46 #[.val (.int p0), .val (.int (if (p0 &&& (1 : Int32)) = (0 : Int32) then (1 : Int32) else 0)), .val (.ref fb), .val (.long (9218868437227405312 : Int64)), .second] [(.int (lcmpW (((((971 : Int32) - (-1074 : Int32)) + (2 : Int32)).toInt64) <<< (((53 : Int32) - (1 : Int32)) &&& 0x3f).toInt64) (9218868437227405312 : Int64)))])) (fun t k => ?_) ?_
    · show Steps p.tables e below (T8.setTop (mkF m 44 #[.val (.int p0), .val (.int (if (p0 &&& (1 : Int32)) = (0 : Int32) then (1 : Int32) else 0)), .val (.ref fb), .val (.long (9218868437227405312 : Int64)), .second] [(.long (((((971 : Int32) - (-1074 : Int32)) + (2 : Int32)).toInt64) <<< (((53 : Int32) - (1 : Int32)) &&& 0x3f).toInt64))])) t
      refine XS.lloadN X8.here hx rfl (hb hby at_44) rfl ?_
      refine XS.lcmp X8.here hx rfl (hb hby at_45) rfl ?_
      exact k
    have hc9 : (((((971 : Int32) - (-1074 : Int32)) + (2 : Int32)).toInt64) <<< (((53 : Int32) - (1 : Int32)) &&& 0x3f).toInt64) = (9218868437227405312 : Int64) := by decide +kernel
    refine own_go (B := T8.setTop (mkF m 54 #[.val (.int p0), .val (.int (if (p0 &&& (1 : Int32)) = (0 : Int32) then (1 : Int32) else 0)), .val (.ref fb), .val (.long (9218868437227405312 : Int64)), .second] [(.int (1 : Int32))])) (fun t k => ?_) ?_
    · show Steps p.tables e below (T8.setTop (mkF m 46 #[.val (.int p0), .val (.int (if (p0 &&& (1 : Int32)) = (0 : Int32) then (1 : Int32) else 0)), .val (.ref fb), .val (.long (9218868437227405312 : Int64)), .second] [(.int (lcmpW (((((971 : Int32) - (-1074 : Int32)) + (2 : Int32)).toInt64) <<< (((53 : Int32) - (1 : Int32)) &&& 0x3f).toInt64) (9218868437227405312 : Int64)))])) t
      refine XS.ifNo X8.here hx rfl (hb hby at_46) rfl ((if0 _ _).trans (teq ((lw_eq _ _).mpr hc9)).2) ?_
      refine XS.iconst X8.here hx rfl (hb hby at_49) ?_
      refine XS.goto X8.here hx rfl (pc0 := 50) (pc' := 54) rfl (hb hby at_50) (by decide) (by decide) ?_
      exact k
    obtain ⟨fs, hr, hrun, hended, hW, hsame⟩ := X8.leave (v := some (.int (1 : Int32))) (fun h => by rw [Bd.returns] at h; cases h)
    refine ⟨_, _, ?_, hrun, hended, _, _, rfl, ?_, ⟨_, rfl⟩, hW, hsame.mono (by decide) (by decide)⟩
    · exact retOut X8 hx (t := .boolean) Bd.returns rfl (Or.inl ⟨rfl, by simp, _, rfl⟩) (hb hby at_54) hr
    · show Q0 Z p0 fa fb h0 n0 _ T8.heap _
      rw [e8]
      exact ⟨rfl, N8⟩
set_option maxRecDepth 65536 in
set_option maxHeartbeats 40000000 in
theorem comes_1 {Post : Tables → Env → Array Value → State → Outcome → State → Prop} (hpost : ∀ tb e args s v u, (limb_1_1.after args s (.returned v) u = true ∧ limb_1_2.after args s (.returned v) u = true ∧ True) → FrameEnd s (.returned v) u (Jvm.fieldLocs frame_1_writes args s ++ Jvm.arrayLocs frame_1_arrays args s ++ Jvm.staticLocs frame_1_statics s) 0 0 → Post tb e args s (.returned v) u) :
    ArmFor flags0 classFile x code maxLocals ret World_1 tables_1 room_1 Calls_1 rest_1 Pre_1 Post := by
  intro l hfl _ _ p e ha hc hk s m args below hf hA hF happ hP
  obtain ⟨hcalls, hrest, hpre⟩ := hP
  obtain ⟨-, -, -, hnamed, -, -, -, hat⟩ := (Spec.applies_iff hf).mp happ
  obtain ⟨hg, hn⟩ := and_e (Cond.before_iff.mp (show (Jvm.Cond.and given_1 narrow_1).before args s = true from hpre))
  obtain ⟨hcnt, hv0⟩ := and_e hg
  have hk0 := hv0
  obtain ⟨w0, rfl⟩ : ∃ w0 : Value, args = #[w0] := by
    have hs : args.size = 1 := by simpa [Cond.value, given_1] using hcnt
    obtain ⟨L⟩ := args
    match L, hs with
    | [w0], _ => exact ⟨w0, rfl⟩
  have hw := fun d (hd : d ∈ tables_1) => atoms_spec (ws := Jvm.Cond.code x code maxLocals ret :: tables_1) hat d (List.mem_cons_of_mem _ hd)
  have hfit : Fit s := fun {y c} hc i hi => by
    obtain ⟨ha, rfl⟩ := Array.getElem?_eq_some_iff.mp hc
    have q := List.all_eq_true.mp ((Array.all_eq_true_iff_forall_mem.mp hF) _ (Array.getElem_mem ha)) i (List.mem_range.mpr hi)
    simpa [Array.getElem?_eq_getElem hi] using q
  obtain ⟨i0, ei0⟩ := is_v hk0
  obtain rfl : w0 = (.int i0) := Option.some.inj ei0
  obtain ⟨na0, hn0⟩ := and_e hn
  obtain ⟨na1, hn1⟩ := and_e hn0
  obtain ⟨na2, hn2⟩ := and_e hn1
  obtain ⟨na3, hn3⟩ := and_e hn2
  obtain ⟨nb0, hn4⟩ := and_e hn3
  obtain ⟨nb1, hn5⟩ := and_e hn4
  obtain ⟨nb2, hn6⟩ := and_e hn5
  have nb3 := hn6
  obtain ⟨fa, ev_fa⟩ := exa_v na0
  have S_FLOAT : Sta s s.heap "com/example/subsumption/subsumption/datatype/FloatingPoint" "FLOAT" "Lcom/example/subsumption/subsumption/datatype/FloatingPoint;" (.ref fa) := Sta.start ev_fa (Or.inr ⟨(hw _ (List.mem_of_getElem? (i := 1) rfl)), (hw _ (List.mem_of_getElem? (i := 2) rfl))⟩)
  have E_fa : Exa s s.heap fa "com/example/subsumption/subsumption/datatype/FloatingPoint" := Exa.start ev_fa na0
  have F_greatestExponent_fa : Fld s s.heap fa "com/example/subsumption/subsumption/datatype/FloatingPoint" "greatestExponent" "I" (.int (104 : Int32)) := Fld.start ((fld_at ev_fa).symm.trans (own_eqI na1))
  have F_leastExponent_fa : Fld s s.heap fa "com/example/subsumption/subsumption/datatype/FloatingPoint" "leastExponent" "I" (.int (-149 : Int32)) := Fld.start ((fld_at ev_fa).symm.trans (own_eqI na2))
  have F_precision_fa : Fld s s.heap fa "com/example/subsumption/subsumption/datatype/FloatingPoint" "precision" "I" (.int (24 : Int32)) := Fld.start ((fld_at ev_fa).symm.trans (own_eqI na3))
  obtain ⟨fb, ev_fb⟩ := exa_v nb0
  have S_DOUBLE : Sta s s.heap "com/example/subsumption/subsumption/datatype/FloatingPoint" "DOUBLE" "Lcom/example/subsumption/subsumption/datatype/FloatingPoint;" (.ref fb) := Sta.start ev_fb (Or.inr ⟨(hw _ (List.mem_of_getElem? (i := 1) rfl)), (hw _ (List.mem_of_getElem? (i := 16) rfl))⟩)
  have E_fb : Exa s s.heap fb "com/example/subsumption/subsumption/datatype/FloatingPoint" := Exa.start ev_fb nb0
  have F_greatestExponent_fb : Fld s s.heap fb "com/example/subsumption/subsumption/datatype/FloatingPoint" "greatestExponent" "I" (.int (971 : Int32)) := Fld.start ((fld_at ev_fb).symm.trans (own_eqI nb1))
  have F_leastExponent_fb : Fld s s.heap fb "com/example/subsumption/subsumption/datatype/FloatingPoint" "leastExponent" "I" (.int (-1074 : Int32)) := Fld.start ((fld_at ev_fb).symm.trans (own_eqI nb2))
  have F_precision_fb : Fld s s.heap fb "com/example/subsumption/subsumption/datatype/FloatingPoint" "precision" "I" (.int (53 : Int32)) := Fld.start ((fld_at ev_fb).symm.trans (own_eqI nb3))
  obtain ⟨n, o, h1, h2, h3, _, L, rfl, ⟨rfl, N⟩, hq⟩ := rm0 l s _ hw tables_1 i0 fa fb s.heap s.heap.size (Nat.le_refl _) (Old.start s) S_FLOAT E_fa F_greatestExponent_fa F_leastExponent_fa F_precision_fa S_DOUBLE E_fb F_greatestExponent_fb F_leastExponent_fb F_precision_fb p e ha hc hk s m _ below hf ((Spec.applies_iff_loose hf).mp happ).1 ⟨rfl, State.Warmed39.refl s, rfl⟩ trivial
  refine ⟨n, _, h1, h2, h3, hpost _ _ _ _ _ _ ⟨Cond.after_iff.mpr rfl, Cond.after_iff.mpr (eq_i res_at (Term.int_eval (1)) rfl), trivial⟩ ⟨hq.1, hq.2.1, (hq.2.2.sift fun y hy => Or.inr (N y hy)).mono (by decide) (by decide)⟩⟩
theorem main_1_1 : Claimed_1_1 := comes_1 fun _ _ _ _ _ _ h hF => ⟨h.1, hF⟩
theorem main_1_2 : Claimed_1_2 := comes_1 fun _ _ _ _ _ _ h hF => ⟨h.2.1, hF⟩
end Jvm.Pilot.@@N@@
namespace Jvm.Pilot.@@N@@
open Jvm Jvm.ClassFile Sem Op Lib Jvm.Free Jvm.Stand Jvm.Pilot.@@N@@.Jvm.D
/-! MADE BY PROGRAM (witnessworld.py) out of the Statement's table words and the real class files: 12 classes; the members and pool entries that the words name. The judged class is class 1, her method 1. -/
namespace start1
open Jvm.ClassFile
def u (s : String) : CpInfo := .utf8 (stringToUtf16 s)
/-- a pool by its gaps: so many unusable entries, then the entry; so many at the end -/
def gap : Nat → List CpInfo → List CpInfo
  | 0, r => r
  | n + 1, r => .unusable :: gap n r
def poolList (es : List (Nat × CpInfo)) (last : Nat) : List CpInfo := es.foldr (fun e r => gap e.1 (e.2 :: r)) (gap last [])
def pool (es : List (Nat × CpInfo)) (last : Nat) : Array CpInfo := ⟨poolList es last⟩
def fileOf (pool : Array CpInfo) (this : Nat) (attrs : Array Attribute := #[]) (ms : Array MethodInfo := #[]) (fl : Nat := 33) (sup : Nat := 0) (ifs : Array Nat := #[]) (fds : Array FieldInfo := #[]) : ClassFile where
  minorVersion := 0
  majorVersion := 65
  constantPool := pool
  accessFlags := fl
  thisClass := this
  superClass := sup
  interfaces := ifs
  fields := fds
  methods := ms
  attributes := attrs
def plain (name : String) (sup : Option ClassId) : Class where
  name := name
  kind := .ordinary
  loader := none
  accessFlags := 33
  super := sup
  interfaces := #[]
  cf := none
  fields := #[]
  methods := #[]
  instanceTypes := #[]
  staticTypes := #[]
  resolved := #[]
  callSites := []
  init := .initialized
  statics := none
  mirror := none

def pool0 : Array CpInfo := pool [(5, u "<init>"), (0, u "()V"), (1, .class_ 10), (1, u "java/lang/Object")] 113

def k0m0 : Method := { name := "<init>", desc := "()V", sig := { parameters := [], returnType := none }, accessFlags := 1, code := none }
/-- java/lang/Object -/
def k0 : Class := { plain "java/lang/Object" none with
  accessFlags := 33
  interfaces := #[]
  cf := some (fileOf pool0 8 #[] #[{ accessFlags := 1, nameIndex := 5, descriptorIndex := 6, attributes := #[] }] 33 0 #[] #[])
  fields := #[]
  methods := #[k0m0]
  instanceTypes := #[]
  staticTypes := #[]
  resolved := Array.replicate 124 none
  statics := none }

def pool1 : Array CpInfo := pool [(2, .class_ 4), (1, u "java/lang/Object"), (0, u "<init>"), (0, u "()V"), (0, .fieldref 8 9), (0, .class_ 10), (0, .nameAndType 11 12), (0, u "com/example/subsumption/subsumption/datatype/FloatingPoint"), (0, u "FLOAT"), (0, u "Lcom/example/subsumption/subsumption/datatype/FloatingPoint;"), (0, .fieldref 8 14), (0, .nameAndType 15 12), (0, u "DOUBLE"), (0, .long 2139095040), (1, .long 9218868437227405312), (1, .methodref 8 21), (0, .nameAndType 22 23), (0, u "infinity"), (0, u "()J"), (0, .class_ 25), (0, u "com/example/subsumption/subsumption/datatype/FloatingPointInfinityPinLaw"), (2, u "law"), (0, u "(I)Z")] 3

def k1m0 : Method := { name := "<init>", desc := "()V", sig := { parameters := [], returnType := none }, accessFlags := 1, code := none }
def k1c1 : Code := { maxStack := 4, maxLocals := 5, code := code, exceptionTable := #[], attributes := #[] }
def k1m1 : Method := { name := "law", desc := "(I)Z", sig := { parameters := [.int], returnType := some .boolean }, accessFlags := 9, code := some k1c1 }
/-- com/example/subsumption/subsumption/datatype/FloatingPointInfinityPinLaw -/
def k1 : Class := { plain "com/example/subsumption/subsumption/datatype/FloatingPointInfinityPinLaw" (some 0) with
  accessFlags := 49
  interfaces := #[]
  cf := some (fileOf pool1 24 #[] #[{ accessFlags := 1, nameIndex := 5, descriptorIndex := 6, attributes := #[] }, { accessFlags := 9, nameIndex := 28, descriptorIndex := 29, attributes := #[] }] 49 2 #[] #[])
  fields := #[]
  methods := #[k1m0, k1m1]
  instanceTypes := #[]
  staticTypes := #[]
  resolved := Array.replicate 33 none
  statics := none }

def pool2 : Array CpInfo := pool [(1, .class_ 2), (0, u "java/lang/constant/Constable"), (0, .class_ 4), (0, u "java/lang/Object")] 6

/-- java/lang/constant/Constable -/
def k2 : Class := { plain "java/lang/constant/Constable" (some 0) with
  accessFlags := 1537
  interfaces := #[]
  cf := some (fileOf pool2 1 #[] #[] 1537 3 #[] #[])
  fields := #[]
  methods := #[]
  instanceTypes := #[]
  staticTypes := #[]
  resolved := Array.replicate 11 none
  statics := none }

def pool3 : Array CpInfo := pool [(1, .class_ 2), (0, u "java/lang/Comparable"), (0, .class_ 4), (0, u "java/lang/Object")] 7

/-- java/lang/Comparable -/
def k3 : Class := { plain "java/lang/Comparable" (some 0) with
  accessFlags := 1537
  interfaces := #[]
  cf := some (fileOf pool3 1 #[] #[] 1537 3 #[] #[])
  fields := #[]
  methods := #[]
  instanceTypes := #[]
  staticTypes := #[]
  resolved := Array.replicate 12 none
  statics := none }

def pool4 : Array CpInfo := pool [(1, .class_ 2), (0, u "java/io/Serializable"), (0, .class_ 4), (0, u "java/lang/Object")] 2

/-- java/io/Serializable -/
def k4 : Class := { plain "java/io/Serializable" (some 0) with
  accessFlags := 1537
  interfaces := #[]
  cf := some (fileOf pool4 1 #[] #[] 1537 3 #[] #[])
  fields := #[]
  methods := #[]
  instanceTypes := #[]
  staticTypes := #[]
  resolved := Array.replicate 7 none
  statics := none }

def pool5 : Array CpInfo := pool [(2, .class_ 4), (1, u "java/lang/Enum"), (0, u "name"), (0, u "Ljava/lang/String;"), (2, u "ordinal"), (0, u "I"), (1, .class_ 14), (1, u "java/lang/Object"), (4, u "hash"), (86, .class_ 108), (1, u "java/lang/Enum$EnumDesc"), (2, .class_ 112), (0, u "java/lang/constant/Constable"), (0, .class_ 114), (0, u "java/lang/Comparable"), (0, .class_ 116), (0, u "java/io/Serializable")] 87

/-- java/lang/Enum -/
def k5 : Class := { plain "java/lang/Enum" (some 0) with
  accessFlags := 1057
  interfaces := #[2, 3, 4]
  cf := some (fileOf pool5 2 #[.nestMembers #[106]] #[] 1057 12 #[111, 113, 115] #[{ accessFlags := 18, nameIndex := 5, descriptorIndex := 6, attributes := #[] }, { accessFlags := 18, nameIndex := 9, descriptorIndex := 10, attributes := #[] }, { accessFlags := 2, nameIndex := 19, descriptorIndex := 10, attributes := #[] }])
  fields := #[{ name := "name", type := (.object "java/lang/String"), accessFlags := 18, slot := 0, constantValue := 0 }, { name := "ordinal", type := .int, accessFlags := 18, slot := 1, constantValue := 0 }, { name := "hash", type := .int, accessFlags := 2, slot := 2, constantValue := 0 }]
  methods := #[]
  instanceTypes := #[(.object "java/lang/String"), .int, .int]
  staticTypes := #[]
  resolved := Array.replicate 204 none
  statics := none }

def pool6 : Array CpInfo := pool [(1, .class_ 2), (0, u "com/example/subsumption/subsumption/datatype/FloatingPoint"), (2, u "FLOAT"), (0, u "Lcom/example/subsumption/subsumption/datatype/FloatingPoint;"), (2, u "DOUBLE"), (2, u "$VALUES"), (0, u "[Lcom/example/subsumption/subsumption/datatype/FloatingPoint;"), (6, .class_ 22), (1, u "java/lang/Enum"), (6, .fieldref 1 30), (0, .nameAndType 31 32), (0, u "precision"), (0, u "I"), (0, .fieldref 1 34), (0, .nameAndType 35 32), (0, u "leastExponent"), (0, .fieldref 1 37), (0, .nameAndType 38 32), (0, u "greatestExponent"), (22, u "infinity"), (0, u "()J"), (73, u "BITS_PER_DIGIT"), (0, u "D")] 109

def k6c0 : Code := { maxStack := 4, maxLocals := 1, code := prog_22_method_4_code, exceptionTable := #[], attributes := #[] }
def k6m0 : Method := { name := "infinity", desc := "()J", sig := { parameters := [], returnType := some .long }, accessFlags := 0, code := some k6c0 }
/-- com/example/subsumption/subsumption/datatype/FloatingPoint -/
def k6 : Class := { plain "com/example/subsumption/subsumption/datatype/FloatingPoint" (some 5) with
  accessFlags := 16432
  interfaces := #[]
  cf := some (fileOf pool6 1 #[] #[{ accessFlags := 0, nameIndex := 61, descriptorIndex := 62, attributes := #[] }] 16432 20 #[] #[{ accessFlags := 16409, nameIndex := 5, descriptorIndex := 6, attributes := #[] }, { accessFlags := 16409, nameIndex := 9, descriptorIndex := 6, attributes := #[] }, { accessFlags := 26, nameIndex := 136, descriptorIndex := 137, attributes := #[] }, { accessFlags := 18, nameIndex := 31, descriptorIndex := 32, attributes := #[] }, { accessFlags := 18, nameIndex := 35, descriptorIndex := 32, attributes := #[] }, { accessFlags := 18, nameIndex := 38, descriptorIndex := 32, attributes := #[] }, { accessFlags := 4122, nameIndex := 12, descriptorIndex := 13, attributes := #[] }])
  fields := #[{ name := "FLOAT", type := (.object "com/example/subsumption/subsumption/datatype/FloatingPoint"), accessFlags := 16409, slot := 0, constantValue := 0 }, { name := "DOUBLE", type := (.object "com/example/subsumption/subsumption/datatype/FloatingPoint"), accessFlags := 16409, slot := 1, constantValue := 0 }, { name := "BITS_PER_DIGIT", type := .double, accessFlags := 26, slot := 2, constantValue := 0 }, { name := "precision", type := .int, accessFlags := 18, slot := 3, constantValue := 0 }, { name := "leastExponent", type := .int, accessFlags := 18, slot := 4, constantValue := 0 }, { name := "greatestExponent", type := .int, accessFlags := 18, slot := 5, constantValue := 0 }, { name := "$VALUES", type := (.array (.object "com/example/subsumption/subsumption/datatype/FloatingPoint")), accessFlags := 4122, slot := 3, constantValue := 0 }]
  methods := #[k6m0]
  instanceTypes := #[(.object "java/lang/String"), .int, .int, .int, .int, .int]
  staticTypes := #[(.object "com/example/subsumption/subsumption/datatype/FloatingPoint"), (.object "com/example/subsumption/subsumption/datatype/FloatingPoint"), .double, (.array (.object "com/example/subsumption/subsumption/datatype/FloatingPoint"))]
  resolved := Array.replicate 247 none
  statics := some 0 }

def pool7 : Array CpInfo := pool [(1, u "java/lang/Cloneable"), (0, .class_ 1), (0, u "java/lang/Object"), (0, .class_ 3)] 3

/-- java/lang/Cloneable -/
def k7 : Class := { plain "java/lang/Cloneable" (some 0) with
  accessFlags := 1537
  interfaces := #[]
  cf := some (fileOf pool7 2 #[] #[] 1537 4 #[] #[])
  fields := #[]
  methods := #[]
  instanceTypes := #[]
  staticTypes := #[]
  resolved := Array.replicate 8 none
  statics := none }

/-- the primitive byte -/
def k8 : Class := { plain "byte" none with kind := .primitive 'B', accessFlags := 0x411 }
/-- [B -/
def k9 : Class := { plain "[B" (some 0) with kind := .array 8 .byte, interfaces := #[7, 4], accessFlags := 1041 }

/-- the primitive int -/
def k10 : Class := { plain "int" none with kind := .primitive 'I', accessFlags := 0x411 }
/-- [I -/
def k11 : Class := { plain "[I" (some 0) with kind := .array 10 .int, interfaces := #[7, 4], accessFlags := 1041 }

def heap : Heap := #[{ cls := 6, slots := #[.ref 1, .ref 2, .double 0, .null], vm := .statics 6 },
  { cls := 6, slots := #[.null, .int 0, .int 0, .int 24, .int (-149), .int 104], vm := .none },
  { cls := 6, slots := #[.null, .int 1, .int 0, .int 53, .int (-1074), .int 971], vm := .none }]
def classes : Array Class := #[k0, k1, k2, k3, k4, k5, k6, k7, k8, k9, k10, k11]
def interned : List (Array UInt16 × Addr) := []
def slotsUsed : Nat := 16
def theMethod : MethodId := ⟨1, 1⟩
def args0 : Array Value := #[.int 1]
def aboutOver (below : List Frame) : State where
  vm := { classes := classes, interned := interned.toArray }
  heap := heap
  slotsUsed := slotsUsed
  threads := #[{ frames := .invoking theMethod args0 :: below }]
def below0 : List Frame := [.native { method := ⟨0, 0⟩, args := #[] }]
def about1 : State := aboutOver below0
def p0 : Program := .bare "" "" ""
def e0 : Env := launch0.env 0 0 0
theorem w_frames : about1.frames = Frame.invoking theMethod args0 :: below0 := rfl
set_option maxRecDepth 65536 in
theorem w_args : argsFit about1.vm theMethod args0 = true := by decide +kernel
set_option maxRecDepth 65536 in
theorem w_heap : heapFits about1 = true := by decide +kernel
set_option maxRecDepth 65536 in
theorem w_runnable : about1.curStatus? = some .runnable := by decide +kernel
set_option maxRecDepth 65536 in
theorem w_alone : about1.alone = true := by decide +kernel
set_option maxRecDepth 65536 in
theorem w_named : about1.methodNamed? x = some theMethod := by decide +kernel
set_option maxRecDepth 65536 in
theorem w_hears : about1.hears theMethod below0 = true := by decide +kernel
set_option maxRecDepth 65536 in
theorem w_ripe : about1.ripe theMethod args0 below0 = true := by decide +kernel
theorem w_running : about1.status = .running := rfl
set_option maxRecDepth 65536 in
theorem w_room : about1.hasRoom e0.platform room_1 = true :=
  launch0.hasRoom_least _ room_1 (by decide +kernel) (by decide +kernel) (by decide +kernel) (by decide +kernel) (by decide +kernel) (by decide +kernel)
theorem allAtoms_all (ts : List Jvm.Cond) (a : Array Jvm.Value) (st : Jvm.State) : (allAtoms ts).before a st = ts.all (fun c => c.before a st) := by
  induction ts with
  | nil => rfl
  | cons c t ih =>
    show (Jvm.Cond.and c (allAtoms t)).before a st = _
    rw [Jvm.Cond.before_and, ih, List.all_cons]
def words1 : List Jvm.Cond := Jvm.Cond.code x code maxLocals ret :: tables_1
/-- a 'code' word, met by the world's own term for the bytes: nothing is compared byte by byte -/
theorem code_word {y : MethodName} {bytes : ByteArray} {mx : Nat} {rt : Option FieldType} {a : Array Value} {s : State} {m : MethodId} {meth : Method} {c : Code} (h1 : s.methodNamed? y = some m) (h2 : s.vm.method? m = some meth) (h3 : meth.code = some c) (h4 : c.code = bytes)
    (h5 : (c.maxLocals == mx && c.exceptionTable.isEmpty && decide (c.maxStack ≤ mostOperands) && decide (meth.sig.returnType = rt) && !meth.locks && decide (parseMethodDescriptor y.desc = some meth.sig)) = true) : (Jvm.Cond.code y bytes mx rt).before a s = true := by
  simp only [Bool.and_eq_true, beq_iff_eq, Bool.not_eq_true', decide_eq_true_eq] at h5
  obtain ⟨⟨⟨⟨⟨g1, g2⟩, g3⟩, g4⟩, g5⟩, g6⟩ := h5
  simp [Cond.before, Cond.holds, Cond.value, h1, h2, h3, h4, g1, g2, g3, g4, g5, g6]
def isCode : Jvm.Cond → Bool
  | .code _ _ _ _ => true
  | _ => false
theorem all_split {L : List Jvm.Cond} {P : Jvm.Cond → Bool} (h1 : L.all (fun c => isCode c || P c) = true) (h2 : ∀ c ∈ L.filter isCode, P c = true) : L.all P = true := by
  refine List.all_eq_true.mpr fun c hc => ?_
  have h := List.all_eq_true.mp h1 c hc
  rcases Bool.eq_false_or_eq_true (isCode c) with hi | hi
  · exact h2 c (List.mem_filter.mpr ⟨hc, hi⟩)
  · simpa [hi] using h
set_option maxRecDepth 65536 in
theorem w_c0 : (Jvm.Cond.code x code maxLocals ret).before args0 about1 = true := code_word (m := ⟨1, 1⟩) (meth := k1m1) (c := k1c1) (by decide +kernel) rfl rfl rfl (by decide +kernel)
set_option maxRecDepth 65536 in
theorem w_c1 : (Jvm.Cond.code ({ cls := "com/example/subsumption/subsumption/datatype/FloatingPoint", name := "infinity", desc := "()J" } : Jvm.MethodName) prog_22_method_4_code (1 : Nat) (Option.some Jvm.ClassFile.FieldType.long)).before args0 about1 = true := code_word (m := ⟨6, 0⟩) (meth := k6m0) (c := k6c0) (by decide +kernel) rfl rfl rfl (by decide +kernel)
def codes1 : List Jvm.Cond := [Jvm.Cond.code x code maxLocals ret, Jvm.Cond.code ({ cls := "com/example/subsumption/subsumption/datatype/FloatingPoint", name := "infinity", desc := "()J" } : Jvm.MethodName) prog_22_method_4_code (1 : Nat) (Option.some Jvm.ClassFile.FieldType.long)]
set_option maxRecDepth 65536 in
theorem codes_eq : words1.filter isCode = codes1 := rfl
theorem w_codes : ∀ c ∈ words1.filter isCode, c.before args0 about1 = true := by
  rw [codes_eq]
  intro c hc
  simp only [codes1, List.mem_cons, List.not_mem_nil, or_false] at hc
  rcases hc with rfl | rfl
  · exact w_c0
  · exact w_c1
set_option maxRecDepth 65536 in
theorem w_t1 : words1.all (fun c => isCode c || c.before args0 about1) = true := by decide +kernel
theorem w_tables : (allAtoms (Jvm.Cond.code x code maxLocals ret :: tables_1)).before args0 about1 = true := by
  rw [allAtoms_all]
  show words1.all (fun c => c.before args0 about1) = true
  refine all_split ?_ w_codes
  rw [w_t1]
set_option maxRecDepth 65536 in
theorem w_case : (Jvm.Cond.and given_1 narrow_1).before args0 about1 = true := by decide +kernel
theorem w_applies : (headSpec (Jvm.Cond.code x code maxLocals ret :: tables_1) room_1).applies x e0.platform about1 = true :=
  (Spec.applies_iff w_frames).mpr ⟨w_running, w_runnable, w_alone, w_named, w_hears, w_ripe, w_room, w_tables⟩
theorem atStart : AtStart classFile x code maxLocals ret World_1 tables_1 room_1 Calls_1 rest_1 Pre_1 launch0 p0 e0 about1 theMethod args0 below0 :=
  ⟨lists_1, trivial, launch0.admits_env _ _ _, launch0.least_env, fairChoices_fair.cas, fairChoices_fair.clock, w_frames, w_args, w_heap, w_applies, trivial, trivial, w_case⟩
end start1
theorem witness_1 : WitnessClaimed_1 := ⟨start1.p0, start1.e0, start1.about1, start1.theMethod, start1.args0, start1.below0, start1.atStart⟩
end Jvm.Pilot.@@N@@
