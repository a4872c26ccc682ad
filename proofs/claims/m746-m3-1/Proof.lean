import JvmDerived
import JvmDerived.Pilot.@@N@@Statement
import JvmDerived.Pilot.@@N@@Code
set_option linter.unusedVariables false
set_option linter.unusedSimpArgs false
namespace Jvm.Pilot.@@N@@
open Jvm Jvm.ClassFile Sem Op Lib Jvm.Free Jvm.Stand Jvm.LawKit Jvm.RoadKit Bundle Jvm.Pilot.@@N@@.Jvm.D
/-- from the state A the run comes to an end of which R holds -/
def own_Fin (tb : Tables) (e : Env) (below : List Frame) (A : State) (R : State → Outcome → Prop) : Prop := ∃ s₂ o, Steps tb e below A s₂ ∧ R s₂ o
theorem own_in {tb : Tables} {e : Env} {below : List Frame} {A : State} {R : State → Outcome → Prop} (h : own_Fin tb e below A R) : ∃ s₂ o, Steps tb e below A s₂ ∧ R s₂ o := h
theorem own_go {tb : Tables} {e : Env} {below : List Frame} {A B : State} {R : State → Outcome → Prop} (st : ∀ t, Steps tb e below B t → Steps tb e below A t) (h : own_Fin tb e below B R) : own_Fin tb e below A R := by
  obtain ⟨s₂, o, h1, h2⟩ := h
  exact ⟨s₂, o, st _ h1, h2⟩
theorem own_beqT {P : Prop} [Decidable P] (h : ¬ P) : ifCond.holds .eq (if P then (1 : Int32) else 0) = true := by rw [if_neg h]; rfl
theorem own_beqF {P : Prop} [Decidable P] (h : P) : ifCond.holds .eq (if P then (1 : Int32) else 0) = false := by rw [if_pos h]; rfl
theorem own_bneT {P : Prop} [Decidable P] (h : P) : ifCond.holds .ne (if P then (1 : Int32) else 0) = true := by rw [if_pos h]; rfl
theorem own_bneF {P : Prop} [Decidable P] (h : ¬ P) : ifCond.holds .ne (if P then (1 : Int32) else 0) = false := by rw [if_neg h]; rfl
theorem own_bEq {P R : Prop} [Decidable P] [Decidable R] (h : P ↔ R) : (if P then (1 : Int32) else 0) = (if R then (1 : Int32) else 0) := by
  by_cases p : P
  · rw [if_pos p, if_pos (h.mp p)]
  · rw [if_neg p, if_neg fun r => p (h.mpr r)]
theorem own_bNe {P R : Prop} [Decidable P] [Decidable R] (h : ¬ (P ↔ R)) : ¬ (if P then (1 : Int32) else 0) = (if R then (1 : Int32) else 0) := by
  intro q
  apply h
  by_cases p : P <;> by_cases r : R
  · exact ⟨fun _ => r, fun _ => p⟩
  · rw [if_pos p, if_neg r] at q; exact absurd q (by decide)
  · rw [if_neg p, if_pos r] at q; exact absurd q (by decide)
  · exact ⟨fun x => absurd x p, fun x => absurd x r⟩
theorem own_fitB {P : Prop} [Decidable P] : fits .boolean (.int (if P then (1 : Int32) else 0)) = true := by by_cases p : P <;> simp only [p, if_true, if_false] <;> rfl
theorem own_narB {P : Prop} [Decidable P] : narrow .boolean (.int (if P then (1 : Int32) else 0)) = .int (if P then (1 : Int32) else 0) := by by_cases p : P <;> simp only [p, if_true, if_false] <;> rfl
theorem own_noN {K : Nat} {x : UInt64} (h : Fl.Mag64 K x) (hK : K ≤ 2047) : Fl.NoNaN64 x := (h.fin hK).noNaN
theorem own_i2dBig {x : Int32} (h : ¬ x = 0) : Big64 1023 (FP.i2d x) := by
  rw [i2d_w]
  refine l2d_big fun q => h ?_
  apply Int32.toInt_inj.mp
  have := congrArg Int64.toInt q
  rw [c_i2l] at this
  exact this
theorem own_c875 : Fl.Mag64 1023 (4606056518893174784 : UInt64) := by unfold Fl.Mag64; decide
theorem own_two : Big64 1024 (4611686018427387904 : UInt64) := by unfold Big64; decide
theorem own_mul875 {K : Nat} {x : UInt64} (h : Fl.Mag64 K x) (hK : K ≤ 1600) : Fl.Mag64 (K + 3) (FP.dmul x (4606056518893174784 : UInt64)) := (Fl.dmul_mag h own_c875 (by omega) (by decide)).mono (by omega)
theorem own_grow {K L : Nat} {x y : UInt64} (h : Fl.Mag64 K x) (hK : K ≤ 1600) (hL : L ≤ K + 3) (hy : Fl.Mag64 L y) : Fl.Mag64 (K + 5) (FP.dadd (FP.dmul x (4606056518893174784 : UInt64)) y) := Fl.dadd_mag (own_mul875 h hK) (hy.mono hL) (by omega)
theorem own_big {x : UInt64} (hB : x = 0 ∨ Big64 1023 x) (h : (0 : Int32) < cmpValue (FP.dcmp x FP.dconst0) .l) : Big64 1023 x := by
  rcases hB with rfl | hB
  · exact absurd h (by decide +kernel)
  · exact hB
theorem own_div {K : Nat} {x y : UInt64} (h : Fl.Mag64 K x) (hy : Big64 1023 y) (hK : K ≤ 1600) : Fl.Mag64 (K + 3) (FP.ddiv x y) := (ddiv_mag h hy (by omega) (by decide)).mono (by omega)
theorem own_dm {K : Nat} {x y : UInt64} {p : Int32} (h : Fl.Mag64 K x) (hy : Big64 1023 y) (hK : K ≤ 1600) : Fl.Mag64 (K + 40) (FP.dmul (FP.ddiv x y) (FP.i2d p)) := (Fl.dmul_mag (own_div h hy hK) (Fl.i2d_mag p) (by omega) (by decide)).mono (by omega)
theorem own_dd {K : Nat} {x y : UInt64} {p : Int32} (h : Fl.Mag64 K x) (hy : Big64 1023 y) (hK : K ≤ 1600) : Fl.Mag64 (K + 45) (FP.ddiv (FP.dmul (FP.ddiv x y) (FP.i2d p)) (4611686018427387904 : UInt64)) := (ddiv_mag (own_dm h hy hK) own_two (by omega) (by decide)).mono (by omega)
theorem own_zero875 : FP.dmul (0 : UInt64) (4606056518893174784 : UInt64) = FP.dconst0 := by decide +kernel
theorem own_add0 {x : Int32} (h : ¬ x = 0) : FP.dadd (FP.dmul (0 : UInt64) (4606056518893174784 : UInt64)) (FP.i2d x) = FP.i2d x := by
  rw [own_zero875, show FP.dadd FP.dconst0 (FP.i2d x) = FP.dadd (FP.i2d x) FP.dconst0 from FP.Core.dadd_comm _ _]
  have hb := own_i2dBig h
  refine FP.Core.dadd_zero ?_ fun q => ?_
  · exact Fl.val64_no.mp (own_noN (Fl.i2d_mag x) (by decide))
  · rw [q] at hb; exact absurd hb.1 (by decide)
/-- what one add does to the double 'lines' -/
def own_lines (u : Int64) (p3 : Int32) (ln : UInt64) (p1 : Int32) (ln' : UInt64) : Prop :=
  ((p3 = (0 : Int32) ∨ u < (20000 : Int64)) ∧ ln' = ln) ∨ (¬ p3 = (0 : Int32) ∧ (¬ (u < (20000 : Int64))) ∧
    ((¬ ((0 : Int32) < (cmpValue (FP.dcmp ln FP.dconst0) .l)) ∧ ln' = FP.dadd (FP.dmul ln (4606056518893174784 : UInt64)) (FP.i2d p1)) ∨
     ((0 : Int32) < (cmpValue (FP.dcmp ln FP.dconst0) .l) ∧ (ln' = FP.i2d p1 ∨ ln' = FP.dadd (FP.dmul ln (4606056518893174784 : UInt64)) (FP.i2d p1)))))
theorem own_nz {x : Int32} (h : ¬ x = 0) : x.toInt64 ≠ 0 := fun q => h (by
  apply Int32.toInt_inj.mp
  have := congrArg Int64.toInt q
  rw [c_i2l] at this
  exact this)
theorem own_mag0 : Fl.Mag64 1088 (0 : UInt64) := by unfold Fl.Mag64; decide
theorem own_lines0 {p3 p1 : Int32} {ln ln' : UInt64} (h : own_lines (0 : Int64) p3 ln p1 ln') : ln' = ln := by
  rcases h with h | ⟨-, h, -⟩
  · exact h.2
  · exact absurd (by decide) h
theorem own_linesB {u : Int64} {p3 p1 : Int32} {ln' : UInt64} (hp : ¬ p1 = 0) (h : own_lines u p3 (0 : UInt64) p1 ln') : ln' = 0 ∨ Big64 1023 ln' := by
  rcases h with h | ⟨-, -, h | h⟩
  · exact Or.inl h.2
  · right; rw [h.2, own_add0 hp]; exact own_i2dBig hp
  · exact absurd h.1 (by decide +kernel)
theorem dmj_0 : decode jdk_29_method_66_code 0 = .ok (.lload_n 0, 1) := by decide +kernel
theorem dmj_1 : decode jdk_29_method_66_code 1 = .ok (.lload_n 2, 1) := by decide +kernel
theorem dmj_2 : decode jdk_29_method_66_code 2 = .ok (.lcmp, 1) := by decide +kernel
theorem dmj_3 : decode jdk_29_method_66_code 3 = .ok (.ifCond .lt 7, 3) := by decide +kernel
theorem dmj_6 : decode jdk_29_method_66_code 6 = .ok (.lload_n 0, 1) := by decide +kernel
theorem dmj_7 : decode jdk_29_method_66_code 7 = .ok (.goto 4, 3) := by decide +kernel
theorem dmj_10 : decode jdk_29_method_66_code 10 = .ok (.lload_n 2, 1) := by decide +kernel
theorem dmj_11 : decode jdk_29_method_66_code 11 = .ok (.lreturn, 1) := by decide +kernel
theorem efmj (m : MethodId) (q0 : Int64) (q1 : Int64) : entryFrame m #[(.long q0), (.long q1)] 4 = mkF m 0 #[.val (.long q0), .second, .val (.long q1), .second] [] := by first | (simp [entryFrame, mkF, argsToLocals, Value.category]; done) | rfl
def Qmj (Z : State) (q0 : Int64) (q1 : Int64) (h0 : Heap) (n0 : Nat) (v : Option Value) (h : Heap) (L : List Loc) : Prop := v = some (.long (if q0 < q1 then q1 else q0)) ∧ Fr n0 L ∧ h = h0
set_option maxRecDepth 65536 in
set_option maxHeartbeats 40000000 in
theorem rmmj (l : Launch) (Z : State) (a0 : Array Value) (hw : ∀ d ∈ tables_1, d.before a0 Z = true) (ws : List Jvm.Cond) (q0 : Int64) (q1 : Int64) (h0 : Heap) (n0 : Nat) (Z0 : n0 ≤ h0.size) :
    MetFree l (⟨"java/lang/Math", "max", "(JJ)J"⟩ : MethodName) (head1 (Jvm.Cond.code (⟨"java/lang/Math", "max", "(JJ)J"⟩ : MethodName) jdk_29_method_66_code 4 (some .long) :: ws) ({ frames := 0, cells := 0, slots := 0, locals := 0 } : Room)) (fun a U => a = #[(.long q0), (.long q1)] ∧ Z.Warmed39 U.vm ∧ U.heap = h0) (fun _ _ _ _ _ => True) (fun _ U o U' => ∃ v L, o = .returned v ∧ Qmj Z q0 q1 h0 n0 v U'.heap L ∧ FrameEnd U o U' L ({ frames := 0, cells := 0, slots := 0, locals := 0 } : Room).cells ({ frames := 0, cells := 0, slots := 0, locals := 0 } : Room).slots) := by
  refine MetFree.of_bodySF (Jvm.Free.JP.mathPlain rfl (by decide +kernel)) hisR ?_
  intro p e s m args below meth c s₁ Bd hml0 hP hK
  obtain ⟨rfl, hZ, hh⟩ := hP
  have hx := Bd.exec
  have hby := Bd.bytes
  have hml : c.maxLocals = 4 := hml0
  have hown : s.vm.findClass "java/lang/Math" = some m.cls := findClass_of_methodNamed Bd.named
  have hnm := (name_of_methodNamed Bd.named Bd.method).1
  have X0 : Stand p l e ({ frames := 0, cells := 0, slots := 0, locals := 0 } : Room) s m #[(.long q0), (.long q1)] below meth c s₁ [] 0 0 := Stand.of_body Bd
  have e0 : s₁.heap = h0 := by rw [← hh, Bd.state]; rfl
  have N0 := Fr.nil n0
  have K0 : Keep h0 h0 [] := Keep.refl h0 _
  refine own_in ?_
  refine own_go (B := s₁.setTop (mkF m 0 #[.val (.long q0), .second, .val (.long q1), .second] [])) (fun t k => castTop (efmj m q0 q1) k) ?_
  refine own_go (B := s₁.setTop (mkF m 3 #[.val (.long q0), .second, .val (.long q1), .second] [(.int (lcmpW q0 q1))])) (fun t k => ?_) ?_
  · show Steps p.tables e below (s₁.setTop (mkF m 0 #[.val (.long q0), .second, .val (.long q1), .second] [])) t
    refine XS.lloadN X0.here hx rfl (hb hby dmj_0) rfl ?_
    refine XS.lloadN X0.here hx rfl (hb hby dmj_1) rfl ?_
    refine XS.lcmp X0.here hx rfl (hb hby dmj_2) rfl ?_
    exact k
  refine own_go (B := s₁.setTop (mkF m 11 #[.val (.long q0), .second, .val (.long q1), .second] [(.long (if q0 < q1 then q1 else q0))])) (fun t k => ?_) ?_
  · skip
    show Steps p.tables e below (s₁.setTop (mkF m 3 #[.val (.long q0), .second, .val (.long q1), .second] [(.int (lcmpW q0 q1))])) t
    by_cases hd1 : q0 < q1
    · refine XS.ifYes X0.here hx rfl (pc0 := 3) (pc' := 10) rfl (hb hby dmj_3) rfl ((if0 _ _).trans (tlt ((lw_lt _ _).mpr hd1)).1) (by decide) (by decide) ?_
      show Steps p.tables e below (s₁.setTop (mkF m 10 #[.val (.long q0), .second, .val (.long q1), .second] [])) t
      refine XS.lloadN X0.here hx rfl (hb hby dmj_10) rfl ?_
      show Steps p.tables e below (s₁.setTop (mkF m 11 #[.val (.long q0), .second, .val (.long q1), .second] [(.long q1)])) t
      exact (congrArg (fun z => Steps p.tables e below (s₁.setTop (mkF m 11 #[.val (.long q0), .second, .val (.long q1), .second] [(.long z)])) t) (if_pos hd1)).mp k
    · refine XS.ifNo X0.here hx rfl (hb hby dmj_3) rfl ((if0 _ _).trans (flt (fun q => hd1 ((lw_lt _ _).mp q))).1) ?_
      show Steps p.tables e below (s₁.setTop (mkF m 6 #[.val (.long q0), .second, .val (.long q1), .second] [])) t
      refine XS.lloadN X0.here hx rfl (hb hby dmj_6) rfl ?_
      show Steps p.tables e below (s₁.setTop (mkF m 7 #[.val (.long q0), .second, .val (.long q1), .second] [(.long q0)])) t
      refine XS.goto X0.here hx rfl (pc0 := 7) (pc' := 11) rfl (hb hby dmj_7) (by decide) (by decide) ?_
      show Steps p.tables e below (s₁.setTop (mkF m 11 #[.val (.long q0), .second, .val (.long q1), .second] [(.long q0)])) t
      exact (congrArg (fun z => Steps p.tables e below (s₁.setTop (mkF m 11 #[.val (.long q0), .second, .val (.long q1), .second] [(.long z)])) t) (if_neg hd1)).mp k
  obtain ⟨fs, hr, hrun, hended, hW, hsame⟩ := X0.leave (v := some (.long (if q0 < q1 then q1 else q0))) (fun h => by rw [Bd.returns] at h; cases h)
  refine ⟨_, _, ?_, hrun, hended, _, _, rfl, ?_, ⟨_, rfl⟩, hW, hsame.mono (by decide) (by decide)⟩
  · exact retOut X0 hx (t := .long) Bd.returns rfl (Or.inr (Or.inl ⟨rfl, rfl, _, rfl⟩)) (hb hby dmj_11) hr
  · show Qmj Z q0 q1 h0 n0 _ s₁.heap _
    rw [e0]
    exact ⟨rfl, N0, rfl⟩
theorem di_0 : decode prog_13_method_1_code 0 = .ok (.aload_n 0, 1) := by decide +kernel
theorem di_1 : decode prog_13_method_1_code 1 = .ok (.invokespecial 1, 3) := by decide +kernel
theorem di_4 : decode prog_13_method_1_code 4 = .ok (.aload_n 0, 1) := by decide +kernel
theorem di_5 : decode prog_13_method_1_code 5 = .ok (.ldc2_w 9, 3) := by decide +kernel
theorem di_8 : decode prog_13_method_1_code 8 = .ok (.putfield 11, 3) := by decide +kernel
theorem di_11 : decode prog_13_method_1_code 11 = .ok (.aload_n 0, 1) := by decide +kernel
theorem di_12 : decode prog_13_method_1_code 12 = .ok (.lload_n 1, 1) := by decide +kernel
theorem di_13 : decode prog_13_method_1_code 13 = .ok (.putfield 15, 3) := by decide +kernel
theorem di_16 : decode prog_13_method_1_code 16 = .ok (.return_, 1) := by decide +kernel
theorem pni : plainName "com/example/nimble_trace/nimbletrace/TextCost" = true := by first | (simp [plainName, overriddenIn]; done) | decide +kernel
theorem efi (m : MethodId) (r0 : Addr) (q1 : Int64) : entryFrame m #[(.ref r0), (.long q1)] 3 = mkF m 0 #[.val (.ref r0), .val (.long q1), .second] [] := by first | (simp [entryFrame, mkF, argsToLocals, Value.category]; done) | rfl
def Qi (Z : State) (r0 : Addr) (q1 : Int64) (h0 : Heap) (n0 : Nat) (v : Option Value) (h : Heap) (L : List Loc) : Prop := v = none ∧ Fr n0 L ∧ Keep h0 h [r0] ∧ Exa Z h r0 "com/example/nimble_trace/nimbletrace/TextCost" ∧ Fld Z h r0 "com/example/nimble_trace/nimbletrace/TextCost" "linesMade" "J" (.long (0 : Int64)) ∧ Fld Z h r0 "com/example/nimble_trace/nimbletrace/TextCost" "lastNanosPerLine" "J" (.long (10000 : Int64)) ∧ Fld Z h r0 "com/example/nimble_trace/nimbletrace/TextCost" "lines" "D" (.double (0 : UInt64)) ∧ Fld Z h r0 "com/example/nimble_trace/nimbletrace/TextCost" "nanos" "D" (.double (0 : UInt64))
set_option maxRecDepth 65536 in
set_option maxHeartbeats 40000000 in
theorem rmi (l : Launch) (Z : State) (a0 : Array Value) (hw : ∀ d ∈ tables_1, d.before a0 Z = true) (ws : List Jvm.Cond) (r0 : Addr) (q1 : Int64) (h0 : Heap) (n0 : Nat) (Z0 : n0 ≤ h0.size) (E_r0 : Exa Z h0 r0 "com/example/nimble_trace/nimbletrace/TextCost") (g_r0 : n0 ≤ r0) (F_lastNanosPerLine_r0 : Fld Z h0 r0 "com/example/nimble_trace/nimbletrace/TextCost" "lastNanosPerLine" "J" (.long (0 : Int64))) (F_leastNanos_r0 : Fld Z h0 r0 "com/example/nimble_trace/nimbletrace/TextCost" "leastNanos" "J" (.long (0 : Int64))) (F_lines_r0 : Fld Z h0 r0 "com/example/nimble_trace/nimbletrace/TextCost" "lines" "D" (.double (0 : UInt64))) (F_linesMade_r0 : Fld Z h0 r0 "com/example/nimble_trace/nimbletrace/TextCost" "linesMade" "J" (.long (0 : Int64))) (F_nanos_r0 : Fld Z h0 r0 "com/example/nimble_trace/nimbletrace/TextCost" "nanos" "D" (.double (0 : UInt64))) :
    MetFree l (⟨"com/example/nimble_trace/nimbletrace/TextCost", "<init>", "(J)V"⟩ : MethodName) (head1 (Jvm.Cond.code (⟨"com/example/nimble_trace/nimbletrace/TextCost", "<init>", "(J)V"⟩ : MethodName) prog_13_method_1_code 3 none :: ws) ({ frames := 1, cells := 0, slots := 0, locals := 14 } : Room)) (fun a U => a = #[(.ref r0), (.long q1)] ∧ Z.Warmed39 U.vm ∧ U.heap = h0) (fun _ _ _ _ _ => True) (fun _ U o U' => ∃ v L, o = .returned v ∧ Qi Z r0 q1 h0 n0 v U'.heap L ∧ FrameEnd U o U' L ({ frames := 1, cells := 0, slots := 0, locals := 14 } : Room).cells ({ frames := 1, cells := 0, slots := 0, locals := 14 } : Room).slots) := by
  refine MetFree.of_bodySF (plainFor_of_name pni) hisR ?_
  intro p e s m args below meth c s₁ Bd hml0 hP hK
  obtain ⟨rfl, hZ, hh⟩ := hP
  have hx := Bd.exec
  have hby := Bd.bytes
  have hml : c.maxLocals = 3 := hml0
  have hown : s.vm.findClass "com/example/nimble_trace/nimbletrace/TextCost" = some m.cls := findClass_of_methodNamed Bd.named
  have hnm := (name_of_methodNamed Bd.named Bd.method).1
  have X0 : Stand p l e ({ frames := 1, cells := 0, slots := 0, locals := 14 } : Room) s m #[(.ref r0), (.long q1)] below meth c s₁ [] 0 0 := Stand.of_body Bd
  have e0 : s₁.heap = h0 := by rw [← hh, Bd.state]; rfl
  have N0 := Fr.nil n0
  have K0 : Keep h0 h0 [r0] := Keep.refl h0 _
  refine own_in ?_
  refine own_go (B := s₁.setTop (mkF m 0 #[.val (.ref r0), .val (.long q1), .second] [])) (fun t k => castTop (efi m r0 q1) k) ?_
  refine own_go (B := s₁.setTop (mkF m 1 #[.val (.ref r0), .val (.long q1), .second] [(.ref r0)])) (fun t k => ?_) ?_
  · show Steps p.tables e below (s₁.setTop (mkF m 0 #[.val (.ref r0), .val (.long q1), .second] [])) t
    refine XS.aloadN X0.here hx rfl (hb hby di_0) rfl rfl ?_
    exact k
  obtain ⟨T1, X1, e1, st1⟩ := initO X0 hx hZ hown (hw _ (List.mem_of_getElem? (i := 6) rfl)) (hw _ (List.mem_of_getElem? (i := 7) rfl)) (hw _ (List.mem_of_getElem? (i := 8) rfl)) e0 (g := (mkF m 1 #[.val (.ref r0), .val (.long q1), .second] [(.ref r0)])) rfl (by rw [hml]; rfl) rfl (hb hby di_1) (by decide) (W := 0) (by show 2 * 0 + _ ≤ _; exact Nat.le_of_eq rfl) (by decide)
  refine own_go st1 ?_
  show own_Fin p.tables e below (T1.setTop (mkF m 4 #[.val (.ref r0), .val (.long q1), .second] [])) _
  refine own_go (B := T1.setTop (mkF m 8 #[.val (.ref r0), .val (.long q1), .second] [(.long (10000 : Int64)), (.ref r0)])) (fun t k => ?_) ?_
  · show Steps p.tables e below (T1.setTop (mkF m 4 #[.val (.ref r0), .val (.long q1), .second] [])) t
    refine XS.aloadN X1.here hx rfl (hb hby di_4) rfl rfl ?_
    refine X1.ldc2J hx hown (mvT hZ (hw _ (List.mem_of_getElem? (i := 9) rfl))) rfl (hb hby di_5) ?_
    exact k
  obtain ⟨T2, h2, X2, e2, W2, st2⟩ := putF X1 hx hZ hown (host := "") (Or.inl (hw _ (List.mem_of_getElem? (i := 10) rfl))) Via.refl e1 F_lastNanosPerLine_r0 E_r0 (Or.inl (hw _ (List.mem_of_getElem? (i := 11) rfl))) (hw _ (List.mem_of_getElem? (i := 1) rfl)) (ty := .long) (by decide) rfl rfl (g := (mkF m 8 #[.val (.ref r0), .val (.long q1), .second] [(.long (10000 : Int64)), (.ref r0)])) rfl rfl (hb hby di_8)
  have N2 := Fr.snoc X2 N0 g_r0
  have K2 : Keep h0 h2 [r0] := K0.wr W2 (Or.inl (by simp))
  have Fw2 := F_lastNanosPerLine_r0.same W2
  refine own_go st2 ?_
  show own_Fin p.tables e below (T2.setTop (mkF m 11 #[.val (.ref r0), .val (.long q1), .second] [])) _
  refine own_go (B := T2.setTop (mkF m 13 #[.val (.ref r0), .val (.long q1), .second] [(.long q1), (.ref r0)])) (fun t k => ?_) ?_
  · show Steps p.tables e below (T2.setTop (mkF m 11 #[.val (.ref r0), .val (.long q1), .second] [])) t
    refine XS.aloadN X2.here hx rfl (hb hby di_11) rfl rfl ?_
    refine XS.lloadN X2.here hx rfl (hb hby di_12) rfl ?_
    exact k
  have f4 := (F_leastNanos_r0.other W2 (Or.inr (slot_ne (Or.inr (hw _ (List.mem_of_getElem? (i := 13) rfl))) (Or.inl (hw _ (List.mem_of_getElem? (i := 11) rfl))) (by decide) (t := .long) (t' := .long) (by decide) (by decide))))
  have f5 := (E_r0.wr W2)
  obtain ⟨T3, h3, X3, e3, W3, st3⟩ := putF X2 hx hZ hown (host := "") (Or.inl (hw _ (List.mem_of_getElem? (i := 12) rfl))) Via.refl e2 f4 f5 (Or.inr ⟨(hw _ (List.mem_of_getElem? (i := 13) rfl)), rfl, hnm⟩) (hw _ (List.mem_of_getElem? (i := 1) rfl)) (ty := .long) (by decide) rfl rfl (g := (mkF m 13 #[.val (.ref r0), .val (.long q1), .second] [(.long q1), (.ref r0)])) rfl rfl (hb hby di_13)
  have N3 := Fr.snoc X3 N2 g_r0
  have K3 : Keep h0 h3 [r0] := K2.wr W3 (Or.inl (by simp))
  have Fw3 := f4.same W3
  refine own_go st3 ?_
  show own_Fin p.tables e below (T3.setTop (mkF m 16 #[.val (.ref r0), .val (.long q1), .second] [])) _
  obtain ⟨fs, hr, hrun, hended, hW, hsame⟩ := X3.leave (v := none) (fun _ => rfl)
  refine ⟨_, _, ?_, hrun, hended, _, _, rfl, ?_, ⟨_, rfl⟩, hW, hsame.mono (by decide) (by decide)⟩
  · exact X3.returnOut hx Bd.returns (hb hby di_16) hr
  · show Qi Z r0 q1 h0 n0 _ T3.heap _
    rw [e3]
    have f7 := (f5.wr W3)
    have f8 := ((F_linesMade_r0.other W2 (Or.inr (slot_ne (Or.inl (hw _ (List.mem_of_getElem? (i := 37) rfl))) (Or.inl (hw _ (List.mem_of_getElem? (i := 11) rfl))) (by decide) (t := .long) (t' := .long) (by decide) (by decide)))).other W3 (Or.inr (slot_ne (Or.inl (hw _ (List.mem_of_getElem? (i := 37) rfl))) (Or.inr (hw _ (List.mem_of_getElem? (i := 13) rfl))) (by decide) (t := .long) (t' := .long) (by decide) (by decide))))
    have f9 := (Fw2.other W3 (Or.inr (slot_ne (Or.inl (hw _ (List.mem_of_getElem? (i := 11) rfl))) (Or.inr (hw _ (List.mem_of_getElem? (i := 13) rfl))) (by decide) (t := .long) (t' := .long) (by decide) (by decide))))
    have f10 := ((F_lines_r0.other W2 (Or.inr (slot_ne (Or.inl (hw _ (List.mem_of_getElem? (i := 20) rfl))) (Or.inl (hw _ (List.mem_of_getElem? (i := 11) rfl))) (by decide) (t := .double) (t' := .long) (by decide) (by decide)))).other W3 (Or.inr (slot_ne (Or.inl (hw _ (List.mem_of_getElem? (i := 20) rfl))) (Or.inr (hw _ (List.mem_of_getElem? (i := 13) rfl))) (by decide) (t := .double) (t' := .long) (by decide) (by decide))))
    have f11 := ((F_nanos_r0.other W2 (Or.inr (slot_ne (Or.inl (hw _ (List.mem_of_getElem? (i := 40) rfl))) (Or.inl (hw _ (List.mem_of_getElem? (i := 11) rfl))) (by decide) (t := .double) (t' := .long) (by decide) (by decide)))).other W3 (Or.inr (slot_ne (Or.inl (hw _ (List.mem_of_getElem? (i := 40) rfl))) (Or.inr (hw _ (List.mem_of_getElem? (i := 13) rfl))) (by decide) (t := .double) (t' := .long) (by decide) (by decide))))
    exact ⟨rfl, N3, K3, f7, f8, f9, f10, f11⟩
theorem dw_0 : decode prog_13_method_3_code 0 = .ok (.aload_n 0, 1) := by decide +kernel
theorem dw_1 : decode prog_13_method_3_code 1 = .ok (.getfield 28, 3) := by decide +kernel
theorem dw_4 : decode prog_13_method_3_code 4 = .ok (.ldc2_w 42, 3) := by decide +kernel
theorem dw_7 : decode prog_13_method_3_code 7 = .ok (.lcmp, 1) := by decide +kernel
theorem dw_8 : decode prog_13_method_3_code 8 = .ok (.ifCond .lt 7, 3) := by decide +kernel
theorem dw_11 : decode prog_13_method_3_code 11 = .ok (.iconst 1, 1) := by decide +kernel
theorem dw_12 : decode prog_13_method_3_code 12 = .ok (.goto 4, 3) := by decide +kernel
theorem dw_15 : decode prog_13_method_3_code 15 = .ok (.iconst 0, 1) := by decide +kernel
theorem dw_16 : decode prog_13_method_3_code 16 = .ok (.ireturn, 1) := by decide +kernel
theorem pnw : plainName "com/example/nimble_trace/nimbletrace/TextCost" = true := by first | (simp [plainName, overriddenIn]; done) | decide +kernel
theorem efw (m : MethodId) (r0 : Addr) : entryFrame m #[(.ref r0)] 1 = mkF m 0 #[.val (.ref r0)] [] := by first | (simp [entryFrame, mkF, argsToLocals, Value.category]; done) | rfl
def Qw (Z : State) (r0 : Addr) (u : Int64) (h0 : Heap) (n0 : Nat) (v : Option Value) (h : Heap) (L : List Loc) : Prop := v = some (.int (if ¬ (u < (20000 : Int64)) then (1 : Int32) else 0)) ∧ Fr n0 L ∧ h = h0
set_option maxRecDepth 65536 in
set_option maxHeartbeats 40000000 in
theorem rmw (l : Launch) (Z : State) (a0 : Array Value) (hw : ∀ d ∈ tables_1, d.before a0 Z = true) (ws : List Jvm.Cond) (r0 : Addr) (u : Int64) (h0 : Heap) (n0 : Nat) (Z0 : n0 ≤ h0.size) (F_lm : Fld Z h0 r0 "com/example/nimble_trace/nimbletrace/TextCost" "linesMade" "J" (.long u)) :
    MetFree l (⟨"com/example/nimble_trace/nimbletrace/TextCost", "isWarm", "()Z"⟩ : MethodName) (head1 (Jvm.Cond.code (⟨"com/example/nimble_trace/nimbletrace/TextCost", "isWarm", "()Z"⟩ : MethodName) prog_13_method_3_code 1 (some .boolean) :: ws) ({ frames := 0, cells := 0, slots := 0, locals := 0 } : Room)) (fun a U => a = #[(.ref r0)] ∧ Z.Warmed39 U.vm ∧ U.heap = h0) (fun _ _ _ _ _ => True) (fun _ U o U' => ∃ v L, o = .returned v ∧ Qw Z r0 u h0 n0 v U'.heap L ∧ FrameEnd U o U' L ({ frames := 0, cells := 0, slots := 0, locals := 0 } : Room).cells ({ frames := 0, cells := 0, slots := 0, locals := 0 } : Room).slots) := by
  refine MetFree.of_bodySF (plainFor_of_name pnw) hisR ?_
  intro p e s m args below meth c s₁ Bd hml0 hP hK
  obtain ⟨rfl, hZ, hh⟩ := hP
  have hx := Bd.exec
  have hby := Bd.bytes
  have hml : c.maxLocals = 1 := hml0
  have hown : s.vm.findClass "com/example/nimble_trace/nimbletrace/TextCost" = some m.cls := findClass_of_methodNamed Bd.named
  have hnm := (name_of_methodNamed Bd.named Bd.method).1
  have X0 : Stand p l e ({ frames := 0, cells := 0, slots := 0, locals := 0 } : Room) s m #[(.ref r0)] below meth c s₁ [] 0 0 := Stand.of_body Bd
  have e0 : s₁.heap = h0 := by rw [← hh, Bd.state]; rfl
  have N0 := Fr.nil n0
  have K0 : Keep h0 h0 [] := Keep.refl h0 _
  refine own_in ?_
  refine own_go (B := s₁.setTop (mkF m 0 #[.val (.ref r0)] [])) (fun t k => castTop (efw m r0) k) ?_
  refine own_go (B := s₁.setTop (mkF m 1 #[.val (.ref r0)] [(.ref r0)])) (fun t k => ?_) ?_
  · show Steps p.tables e below (s₁.setTop (mkF m 0 #[.val (.ref r0)] [])) t
    refine XS.aloadN X0.here hx rfl (hb hby dw_0) rfl rfl ?_
    exact k
  obtain ⟨T1, X1, e1, st1⟩ := getF X0 hx hZ hown (host := "") (Or.inl (hw _ (List.mem_of_getElem? (i := 36) rfl))) Via.refl e0 F_lm (g := (mkF m 1 #[.val (.ref r0)] [(.ref r0)])) rfl rfl (hb hby dw_1)
  refine own_go st1 ?_
  show own_Fin p.tables e below (T1.setTop (mkF m 4 #[.val (.ref r0)] [(.long u)])) _
  refine own_go (B := T1.setTop (mkF m 8 #[.val (.ref r0)] [(.int (lcmpW u (20000 : Int64)))])) (fun t k => ?_) ?_
  · show Steps p.tables e below (T1.setTop (mkF m 4 #[.val (.ref r0)] [(.long u)])) t
    refine X1.ldc2J hx hown (mvT hZ (hw _ (List.mem_of_getElem? (i := 38) rfl))) rfl (hb hby dw_4) ?_
    refine XS.lcmp X1.here hx rfl (hb hby dw_7) rfl ?_
    exact k
  refine own_go (B := T1.setTop (mkF m 16 #[.val (.ref r0)] [(.int (if ¬ (u < (20000 : Int64)) then (1 : Int32) else 0))])) (fun t k => ?_) ?_
  · skip
    show Steps p.tables e below (T1.setTop (mkF m 8 #[.val (.ref r0)] [(.int (lcmpW u (20000 : Int64)))])) t
    by_cases hd2 : u < (20000 : Int64)
    · refine XS.ifYes X1.here hx rfl (pc0 := 8) (pc' := 15) rfl (hb hby dw_8) rfl ((if0 _ _).trans (tlt ((lw_lt _ _).mpr hd2)).1) (by decide) (by decide) ?_
      show Steps p.tables e below (T1.setTop (mkF m 15 #[.val (.ref r0)] [])) t
      refine XS.iconst X1.here hx rfl (hb hby dw_15) ?_
      show Steps p.tables e below (T1.setTop (mkF m 16 #[.val (.ref r0)] [(.int (0 : Int32))])) t
      exact (congrArg (fun z => Steps p.tables e below (T1.setTop (mkF m 16 #[.val (.ref r0)] [(.int z)])) t) (if_neg (fun q => q hd2))).mp k
    · refine XS.ifNo X1.here hx rfl (hb hby dw_8) rfl ((if0 _ _).trans (flt (fun q => hd2 ((lw_lt _ _).mp q))).1) ?_
      show Steps p.tables e below (T1.setTop (mkF m 11 #[.val (.ref r0)] [])) t
      refine XS.iconst X1.here hx rfl (hb hby dw_11) ?_
      show Steps p.tables e below (T1.setTop (mkF m 12 #[.val (.ref r0)] [(.int (1 : Int32))])) t
      refine XS.goto X1.here hx rfl (pc0 := 12) (pc' := 16) rfl (hb hby dw_12) (by decide) (by decide) ?_
      show Steps p.tables e below (T1.setTop (mkF m 16 #[.val (.ref r0)] [(.int (1 : Int32))])) t
      exact (congrArg (fun z => Steps p.tables e below (T1.setTop (mkF m 16 #[.val (.ref r0)] [(.int z)])) t) (if_pos hd2)).mp k
  obtain ⟨fs, hr, hrun, hended, hW, hsame⟩ := X1.leave (v := some (.int (if ¬ (u < (20000 : Int64)) then (1 : Int32) else 0))) (fun h => by rw [Bd.returns] at h; cases h)
  refine ⟨_, _, ?_, hrun, hended, _, _, rfl, ?_, ⟨_, rfl⟩, hW, hsame.mono (by decide) (by decide)⟩
  · exact retOut X1 hx (t := .boolean) Bd.returns own_narB (Or.inl ⟨rfl, by simp, _, rfl⟩) (hb hby dw_16) hr
  · show Qw Z r0 u h0 n0 _ T1.heap _
    rw [e1]
    exact ⟨rfl, N0, rfl⟩
theorem da_0 : decode prog_13_method_2_code 0 = .ok (.aload_n 0, 1) := by decide +kernel
theorem da_1 : decode prog_13_method_2_code 1 = .ok (.lconst 1, 1) := by decide +kernel
theorem da_2 : decode prog_13_method_2_code 2 = .ok (.lload_n 2, 1) := by decide +kernel
theorem da_3 : decode prog_13_method_2_code 3 = .ok (.iload_n 1, 1) := by decide +kernel
theorem da_4 : decode prog_13_method_2_code 4 = .ok (.i2l, 1) := by decide +kernel
theorem da_5 : decode prog_13_method_2_code 5 = .ok (.ldiv, 1) := by decide +kernel
theorem da_6 : decode prog_13_method_2_code 6 = .ok (.invokestatic 18, 3) := by decide +kernel
theorem da_9 : decode prog_13_method_2_code 9 = .ok (.putfield 11, 3) := by decide +kernel
theorem da_12 : decode prog_13_method_2_code 12 = .ok (.aload_n 0, 1) := by decide +kernel
theorem da_13 : decode prog_13_method_2_code 13 = .ok (.invokevirtual 24, 3) := by decide +kernel
theorem da_16 : decode prog_13_method_2_code 16 = .ok (.istore 5, 2) := by decide +kernel
theorem da_18 : decode prog_13_method_2_code 18 = .ok (.aload_n 0, 1) := by decide +kernel
theorem da_19 : decode prog_13_method_2_code 19 = .ok (.dup, 1) := by decide +kernel
theorem da_20 : decode prog_13_method_2_code 20 = .ok (.getfield 28, 3) := by decide +kernel
theorem da_23 : decode prog_13_method_2_code 23 = .ok (.iload_n 1, 1) := by decide +kernel
theorem da_24 : decode prog_13_method_2_code 24 = .ok (.i2l, 1) := by decide +kernel
theorem da_25 : decode prog_13_method_2_code 25 = .ok (.ladd, 1) := by decide +kernel
theorem da_26 : decode prog_13_method_2_code 26 = .ok (.putfield 28, 3) := by decide +kernel
theorem da_29 : decode prog_13_method_2_code 29 = .ok (.iload 4, 2) := by decide +kernel
theorem da_31 : decode prog_13_method_2_code 31 = .ok (.ifCond .eq 8, 3) := by decide +kernel
theorem da_34 : decode prog_13_method_2_code 34 = .ok (.iload 5, 2) := by decide +kernel
theorem da_36 : decode prog_13_method_2_code 36 = .ok (.ifCond .ne 4, 3) := by decide +kernel
theorem da_39 : decode prog_13_method_2_code 39 = .ok (.return_, 1) := by decide +kernel
theorem da_40 : decode prog_13_method_2_code 40 = .ok (.aload_n 0, 1) := by decide +kernel
theorem da_41 : decode prog_13_method_2_code 41 = .ok (.getfield 31, 3) := by decide +kernel
theorem da_44 : decode prog_13_method_2_code 44 = .ok (.dconst 0, 1) := by decide +kernel
theorem da_45 : decode prog_13_method_2_code 45 = .ok (.dcmp .l, 1) := by decide +kernel
theorem da_46 : decode prog_13_method_2_code 46 = .ok (.ifCond .le 38, 3) := by decide +kernel
theorem da_49 : decode prog_13_method_2_code 49 = .ok (.lload_n 2, 1) := by decide +kernel
theorem da_50 : decode prog_13_method_2_code 50 = .ok (.l2d, 1) := by decide +kernel
theorem da_51 : decode prog_13_method_2_code 51 = .ok (.aload_n 0, 1) := by decide +kernel
theorem da_52 : decode prog_13_method_2_code 52 = .ok (.getfield 35, 3) := by decide +kernel
theorem da_55 : decode prog_13_method_2_code 55 = .ok (.aload_n 0, 1) := by decide +kernel
theorem da_56 : decode prog_13_method_2_code 56 = .ok (.getfield 31, 3) := by decide +kernel
theorem da_59 : decode prog_13_method_2_code 59 = .ok (.ddiv, 1) := by decide +kernel
theorem da_60 : decode prog_13_method_2_code 60 = .ok (.iload_n 1, 1) := by decide +kernel
theorem da_61 : decode prog_13_method_2_code 61 = .ok (.i2d, 1) := by decide +kernel
theorem da_62 : decode prog_13_method_2_code 62 = .ok (.dmul, 1) := by decide +kernel
theorem da_63 : decode prog_13_method_2_code 63 = .ok (.ldc2_w 38, 3) := by decide +kernel
theorem da_66 : decode prog_13_method_2_code 66 = .ok (.ddiv, 1) := by decide +kernel
theorem da_67 : decode prog_13_method_2_code 67 = .ok (.dcmp .g, 1) := by decide +kernel
theorem da_68 : decode prog_13_method_2_code 68 = .ok (.ifCond .ge 16, 3) := by decide +kernel
theorem da_71 : decode prog_13_method_2_code 71 = .ok (.aload_n 0, 1) := by decide +kernel
theorem da_72 : decode prog_13_method_2_code 72 = .ok (.lload_n 2, 1) := by decide +kernel
theorem da_73 : decode prog_13_method_2_code 73 = .ok (.l2d, 1) := by decide +kernel
theorem da_74 : decode prog_13_method_2_code 74 = .ok (.putfield 35, 3) := by decide +kernel
theorem da_77 : decode prog_13_method_2_code 77 = .ok (.aload_n 0, 1) := by decide +kernel
theorem da_78 : decode prog_13_method_2_code 78 = .ok (.iload_n 1, 1) := by decide +kernel
theorem da_79 : decode prog_13_method_2_code 79 = .ok (.i2d, 1) := by decide +kernel
theorem da_80 : decode prog_13_method_2_code 80 = .ok (.putfield 31, 3) := by decide +kernel
theorem da_83 : decode prog_13_method_2_code 83 = .ok (.return_, 1) := by decide +kernel
theorem da_84 : decode prog_13_method_2_code 84 = .ok (.aload_n 0, 1) := by decide +kernel
theorem da_85 : decode prog_13_method_2_code 85 = .ok (.aload_n 0, 1) := by decide +kernel
theorem da_86 : decode prog_13_method_2_code 86 = .ok (.getfield 35, 3) := by decide +kernel
theorem da_89 : decode prog_13_method_2_code 89 = .ok (.ldc2_w 40, 3) := by decide +kernel
theorem da_92 : decode prog_13_method_2_code 92 = .ok (.dmul, 1) := by decide +kernel
theorem da_93 : decode prog_13_method_2_code 93 = .ok (.lload_n 2, 1) := by decide +kernel
theorem da_94 : decode prog_13_method_2_code 94 = .ok (.l2d, 1) := by decide +kernel
theorem da_95 : decode prog_13_method_2_code 95 = .ok (.dadd, 1) := by decide +kernel
theorem da_96 : decode prog_13_method_2_code 96 = .ok (.putfield 35, 3) := by decide +kernel
theorem da_99 : decode prog_13_method_2_code 99 = .ok (.aload_n 0, 1) := by decide +kernel
theorem da_100 : decode prog_13_method_2_code 100 = .ok (.aload_n 0, 1) := by decide +kernel
theorem da_101 : decode prog_13_method_2_code 101 = .ok (.getfield 31, 3) := by decide +kernel
theorem da_104 : decode prog_13_method_2_code 104 = .ok (.ldc2_w 40, 3) := by decide +kernel
theorem da_107 : decode prog_13_method_2_code 107 = .ok (.dmul, 1) := by decide +kernel
theorem da_108 : decode prog_13_method_2_code 108 = .ok (.iload_n 1, 1) := by decide +kernel
theorem da_109 : decode prog_13_method_2_code 109 = .ok (.i2d, 1) := by decide +kernel
theorem da_110 : decode prog_13_method_2_code 110 = .ok (.dadd, 1) := by decide +kernel
theorem da_111 : decode prog_13_method_2_code 111 = .ok (.putfield 31, 3) := by decide +kernel
theorem da_114 : decode prog_13_method_2_code 114 = .ok (.return_, 1) := by decide +kernel
theorem pna : plainName "com/example/nimble_trace/nimbletrace/TextCost" = true := by first | (simp [plainName, overriddenIn]; done) | decide +kernel
theorem pda_0 : parseMethodDescriptor "(JJ)J" = some ⟨[.long, .long], some .long⟩ := by decide +kernel
theorem pda_1 : parseMethodDescriptor "()Z" = some ⟨[], some .boolean⟩ := by decide +kernel
theorem efa (m : MethodId) (r0 : Addr) (p1 : Int32) (q2 : Int64) (p3 : Int32) : entryFrame m #[(.ref r0), (.int p1), (.long q2), (.int p3)] 6 = mkF m 0 #[.val (.ref r0), .val (.int p1), .val (.long q2), .second, .val (.int p3), .unset] [] := by first | (simp [entryFrame, mkF, argsToLocals, Value.category]; done) | rfl
def Qa (Z : State) (r0 : Addr) (p1 : Int32) (q2 : Int64) (p3 : Int32) (u : Int64) (lp : Int64) (ln : UInt64) (nn : UInt64) (K : Nat) (h0 : Heap) (n0 : Nat) (v : Option Value) (h : Heap) (L : List Loc) : Prop := v = none ∧ Fr n0 L ∧ Keep h0 h [r0] ∧ Exa Z h r0 "com/example/nimble_trace/nimbletrace/TextCost" ∧ Fld Z h r0 "com/example/nimble_trace/nimbletrace/TextCost" "linesMade" "J" (.long (u + p1.toInt64)) ∧ ∃ (ln' nn' : UInt64) (lp' : Int64), Fld Z h r0 "com/example/nimble_trace/nimbletrace/TextCost" "lines" "D" (.double ln') ∧ Fld Z h r0 "com/example/nimble_trace/nimbletrace/TextCost" "nanos" "D" (.double nn') ∧ Fld Z h r0 "com/example/nimble_trace/nimbletrace/TextCost" "lastNanosPerLine" "J" (.long lp') ∧ Fl.Mag64 (K + 5) nn' ∧ Fl.Mag64 (K + 5) ln' ∧ own_lines u p3 ln p1 ln'
set_option maxRecDepth 65536 in
set_option maxHeartbeats 40000000 in
theorem rma (l : Launch) (Z : State) (a0 : Array Value) (hw : ∀ d ∈ tables_1, d.before a0 Z = true) (ws : List Jvm.Cond) (r0 : Addr) (p1 : Int32) (q2 : Int64) (p3 : Int32) (u : Int64) (lp : Int64) (ln : UInt64) (nn : UInt64) (K : Nat) (h0 : Heap) (n0 : Nat) (Z0 : n0 ≤ h0.size) (E_r0 : Exa Z h0 r0 "com/example/nimble_trace/nimbletrace/TextCost") (g_r0 : n0 ≤ r0) (F_lm : Fld Z h0 r0 "com/example/nimble_trace/nimbletrace/TextCost" "linesMade" "J" (.long u)) (F_lp : Fld Z h0 r0 "com/example/nimble_trace/nimbletrace/TextCost" "lastNanosPerLine" "J" (.long lp)) (F_ln : Fld Z h0 r0 "com/example/nimble_trace/nimbletrace/TextCost" "lines" "D" (.double ln)) (F_nn : Fld Z h0 r0 "com/example/nimble_trace/nimbletrace/TextCost" "nanos" "D" (.double nn)) (hp1 : ¬ p1 = 0) (hK1 : 1088 ≤ K) (hK2 : K ≤ 1500) (mN : Fl.Mag64 K nn) (mL : Fl.Mag64 K ln) (hB : ln = 0 ∨ Big64 1023 ln) :
    MetFree l (⟨"com/example/nimble_trace/nimbletrace/TextCost", "add", "(IJZ)V"⟩ : MethodName) (head1 (Jvm.Cond.code (⟨"com/example/nimble_trace/nimbletrace/TextCost", "add", "(IJZ)V"⟩ : MethodName) prog_13_method_2_code 6 none :: ws) ({ frames := 1, cells := 0, slots := 0, locals := 40 } : Room)) (fun a U => a = #[(.ref r0), (.int p1), (.long q2), (.int p3)] ∧ Z.Warmed39 U.vm ∧ U.heap = h0) (fun _ _ _ _ _ => True) (fun _ U o U' => ∃ v L, o = .returned v ∧ Qa Z r0 p1 q2 p3 u lp ln nn K h0 n0 v U'.heap L ∧ FrameEnd U o U' L ({ frames := 1, cells := 0, slots := 0, locals := 40 } : Room).cells ({ frames := 1, cells := 0, slots := 0, locals := 40 } : Room).slots) := by
  refine MetFree.of_bodySF (plainFor_of_name pna) hisR ?_
  intro p e s m args below meth c s₁ Bd hml0 hP hK
  obtain ⟨rfl, hZ, hh⟩ := hP
  have hx := Bd.exec
  have hby := Bd.bytes
  have hml : c.maxLocals = 6 := hml0
  have hown : s.vm.findClass "com/example/nimble_trace/nimbletrace/TextCost" = some m.cls := findClass_of_methodNamed Bd.named
  have hnm := (name_of_methodNamed Bd.named Bd.method).1
  have X0 : Stand p l e ({ frames := 1, cells := 0, slots := 0, locals := 40 } : Room) s m #[(.ref r0), (.int p1), (.long q2), (.int p3)] below meth c s₁ [] 0 0 := Stand.of_body Bd
  have e0 : s₁.heap = h0 := by rw [← hh, Bd.state]; rfl
  have N0 := Fr.nil n0
  have K0 : Keep h0 h0 [r0] := Keep.refl h0 _
  refine own_in ?_
  refine own_go (B := s₁.setTop (mkF m 0 #[.val (.ref r0), .val (.int p1), .val (.long q2), .second, .val (.int p3), .unset] [])) (fun t k => castTop (efa m r0 p1 q2 p3) k) ?_
  refine own_go (B := s₁.setTop (mkF m 6 #[.val (.ref r0), .val (.int p1), .val (.long q2), .second, .val (.int p3), .unset] [(.long (q2 / (p1.toInt64))), (.long (1 : Int64)), (.ref r0)])) (fun t k => ?_) ?_
  · show Steps p.tables e below (s₁.setTop (mkF m 0 #[.val (.ref r0), .val (.int p1), .val (.long q2), .second, .val (.int p3), .unset] [])) t
    refine XS.aloadN X0.here hx rfl (hb hby da_0) rfl rfl ?_
    refine XS.lconst X0.here hx rfl (hb hby da_1) ?_
    refine XS.lloadN X0.here hx rfl (hb hby da_2) rfl ?_
    refine XS.iloadN X0.here hx rfl (hb hby da_3) rfl ?_
    show Steps p.tables e below (s₁.setTop (mkF m 4 #[.val (.ref r0), .val (.int p1), .val (.long q2), .second, .val (.int p3), .unset] [(.int p1), (.long q2), (.long (1 : Int64)), (.ref r0)])) t
    refine XS.i2l X0.here hx rfl (hb hby da_4) rfl ?_
    refine XS.ldiv X0.here hx rfl (hb hby da_5) rfl (own_nz hp1) ?_
    exact k
  obtain ⟨_, _, ⟨T1, L1, k1, n1⟩, -, X1, ⟨Lc1, hQ1, l1, y1, z1⟩, st1⟩ := Jvm.LawKit.callS X0 hx (y := (⟨"java/lang/Math", "max", "(JJ)J"⟩ : MethodName)) hown (mvT hZ (hw _ (List.mem_of_getElem? (i := 27) rfl))) (mvT hZ (hw _ (List.mem_of_getElem? (i := 28) rfl))) (mvT hZ (hw _ (List.mem_of_getElem? (i := 29) rfl))) (mvT hZ (hw _ (List.mem_of_getElem? (i := 30) rfl))) (by decide) (backOf (W := 1) (rmmj l Z a0 hw [] (1 : Int64) (q2 / (p1.toInt64))  h0 n0 Z0 ) hZ (hw _ (List.mem_of_getElem? (i := 30) rfl)) (hw _ (List.mem_of_getElem? (i := 29) rfl)) (by decide) (by decide)) (g := (mkF m 6 #[.val (.ref r0), .val (.int p1), .val (.long q2), .second, .val (.int p3), .unset] [(.long (q2 / (p1.toInt64))), (.long (1 : Int64)), (.ref r0)])) rfl (by rw [hml]; rfl) (argsL := [(.long (1 : Int64)), (.long (q2 / (p1.toInt64)))]) (rest := [(.ref r0)]) (lenOf pda_0 rfl) rfl (by show 2 * 0 + _ ≤ _; exact Nat.le_of_eq rfl) (hb hby da_6) (fun _ _ => ⟨rfl, e0, (by decide : 0 + 0 ≤ _), (by decide : 0 + 0 ≤ _)⟩)
  dsimp only [Pt.U, Pt.locs, Pt.cells, Pt.slots] at X1 l1 y1 z1 st1 hQ1
  subst y1 z1
  have X1 : Stand p l e ({ frames := 1, cells := 0, slots := 0, locals := 40 } : Room) s m #[(.ref r0), (.int p1), (.long q2), (.int p3)] below meth c T1 _ 0 0 := X1
  obtain ⟨rfl, N1q, e1⟩ := hQ1
  have N1 : Fr n0 L1 := by rw [l1]; exact Fr.app N0 N1q
  refine own_go (st1) ?_
  show own_Fin p.tables e below (T1.setTop (mkF m 9 #[.val (.ref r0), .val (.int p1), .val (.long q2), .second, .val (.int p3), .unset] [(.long (if (1 : Int64) < (q2 / (p1.toInt64)) then (q2 / (p1.toInt64)) else (1 : Int64))), (.ref r0)])) _
  obtain ⟨T2, h2, X2, e2, W2, st2⟩ := putF X1 hx hZ hown (host := "") (Or.inl (hw _ (List.mem_of_getElem? (i := 10) rfl))) Via.refl e1 F_lp E_r0 (Or.inl (hw _ (List.mem_of_getElem? (i := 11) rfl))) (hw _ (List.mem_of_getElem? (i := 1) rfl)) (ty := .long) (by decide) rfl rfl (g := (mkF m 9 #[.val (.ref r0), .val (.int p1), .val (.long q2), .second, .val (.int p3), .unset] [(.long (if (1 : Int64) < (q2 / (p1.toInt64)) then (q2 / (p1.toInt64)) else (1 : Int64))), (.ref r0)])) rfl rfl (hb hby da_9)
  have N2 := Fr.snoc X2 N1 g_r0
  have K2 : Keep h0 h2 [r0] := K0.wr W2 (Or.inl (by simp))
  have Fw2 := F_lp.same W2
  refine own_go st2 ?_
  show own_Fin p.tables e below (T2.setTop (mkF m 12 #[.val (.ref r0), .val (.int p1), .val (.long q2), .second, .val (.int p3), .unset] [])) _
  refine own_go (B := T2.setTop (mkF m 13 #[.val (.ref r0), .val (.int p1), .val (.long q2), .second, .val (.int p3), .unset] [(.ref r0)])) (fun t k => ?_) ?_
  · show Steps p.tables e below (T2.setTop (mkF m 12 #[.val (.ref r0), .val (.int p1), .val (.long q2), .second, .val (.int p3), .unset] [])) t
    refine XS.aloadN X2.here hx rfl (hb hby da_12) rfl rfl ?_
    exact k
  have f4 := (F_lm.other W2 (Or.inr (slot_ne (Or.inl (hw _ (List.mem_of_getElem? (i := 37) rfl))) (Or.inl (hw _ (List.mem_of_getElem? (i := 11) rfl))) (by decide) (t := .long) (t' := .long) (by decide) (by decide))))
  have f5 := (E_r0.wr W2)
  obtain ⟨cq3, kq3, q3a, q3b, q3c⟩ := isOf hZ e2 f5
  obtain ⟨_, _, ⟨T3, L3, k3, n3⟩, -, X3, ⟨Lc3, hQ3, l3, y3, z3⟩, st3⟩ := X2.virtualBack hx (y := (⟨"com/example/nimble_trace/nimbletrace/TextCost", "isWarm", "()Z"⟩ : MethodName)) (z := (⟨"com/example/nimble_trace/nimbletrace/TextCost", "isWarm", "()Z"⟩ : MethodName)) hown (mvT hZ (hw _ (List.mem_of_getElem? (i := 31) rfl))) (mvT hZ (hw _ (List.mem_of_getElem? (i := 32) rfl))) (notFace_of_selects (args := #[]) (mvT hZ (hw _ (List.mem_of_getElem? (i := 34) rfl)))) (mvT hZ (hw _ (List.mem_of_getElem? (i := 34) rfl))) (mvT hZ (hw _ (List.mem_of_getElem? (i := 33) rfl))) (by decide) (backOf (W := 0) (rmw l Z a0 hw [] r0 u h2 n0 (Nat.le_trans Z0 K2.1) f4) hZ (hw _ (List.mem_of_getElem? (i := 35) rfl)) (hw _ (List.mem_of_getElem? (i := 2) rfl)) (by decide) (by decide)) q3a q3c (g := (mkF m 13 #[.val (.ref r0), .val (.int p1), .val (.long q2), .second, .val (.int p3), .unset] [(.ref r0)])) rfl (by rw [hml]; rfl) (Steps.refl _) (argsL := []) (rest := []) (lenOf pda_1 rfl) rfl (by show 2 * 0 + _ ≤ _; exact Nat.le_of_eq rfl) (hb hby da_13) (fun _ _ => ⟨rfl, e2, (by decide : 0 + 0 ≤ _), (by decide : 0 + 0 ≤ _)⟩)
  dsimp only [Pt.U, Pt.locs, Pt.cells, Pt.slots] at X3 l3 y3 z3 st3 hQ3
  subst y3 z3
  have X3 : Stand p l e ({ frames := 1, cells := 0, slots := 0, locals := 40 } : Room) s m #[(.ref r0), (.int p1), (.long q2), (.int p3)] below meth c T3 _ 0 0 := X3
  obtain ⟨rfl, N3q, e3⟩ := hQ3
  have N3 : Fr n0 L3 := by rw [l3]; exact Fr.app N2 N3q
  refine own_go (fun _ k => st3.trans k) ?_
  show own_Fin p.tables e below (T3.setTop (mkF m 16 #[.val (.ref r0), .val (.int p1), .val (.long q2), .second, .val (.int p3), .unset] [(.int (if ¬ (u < (20000 : Int64)) then (1 : Int32) else 0))])) _
  refine own_go (B := T3.setTop (mkF m 20 #[.val (.ref r0), .val (.int p1), .val (.long q2), .second, .val (.int p3), .val (.int (if ¬ (u < (20000 : Int64)) then (1 : Int32) else 0))] [(.ref r0), (.ref r0)])) (fun t k => ?_) ?_
  · show Steps p.tables e below (T3.setTop (mkF m 16 #[.val (.ref r0), .val (.int p1), .val (.long q2), .second, .val (.int p3), .unset] [(.int (if ¬ (u < (20000 : Int64)) then (1 : Int32) else 0))])) t
    refine XS.istore X3.here hx rfl (hb hby da_16) rfl (l' := #[.val (.ref r0), .val (.int p1), .val (.long q2), .second, .val (.int p3), .val (.int (if ¬ (u < (20000 : Int64)) then (1 : Int32) else 0))]) rfl ?_
    refine XS.aloadN X3.here hx rfl (hb hby da_18) rfl rfl ?_
    refine XS.dup X3.here hx rfl (hb hby da_19) rfl rfl ?_
    exact k
  obtain ⟨T6, X6, e6, st6⟩ := getF X3 hx hZ hown (host := "") (Or.inl (hw _ (List.mem_of_getElem? (i := 36) rfl))) Via.refl e3 f4 (g := (mkF m 20 #[.val (.ref r0), .val (.int p1), .val (.long q2), .second, .val (.int p3), .val (.int (if ¬ (u < (20000 : Int64)) then (1 : Int32) else 0))] [(.ref r0), (.ref r0)])) rfl rfl (hb hby da_20)
  refine own_go st6 ?_
  show own_Fin p.tables e below (T6.setTop (mkF m 23 #[.val (.ref r0), .val (.int p1), .val (.long q2), .second, .val (.int p3), .val (.int (if ¬ (u < (20000 : Int64)) then (1 : Int32) else 0))] [(.long u), (.ref r0)])) _
  refine own_go (B := T6.setTop (mkF m 26 #[.val (.ref r0), .val (.int p1), .val (.long q2), .second, .val (.int p3), .val (.int (if ¬ (u < (20000 : Int64)) then (1 : Int32) else 0))] [(.long (u + (p1.toInt64))), (.ref r0)])) (fun t k => ?_) ?_
  · show Steps p.tables e below (T6.setTop (mkF m 23 #[.val (.ref r0), .val (.int p1), .val (.long q2), .second, .val (.int p3), .val (.int (if ¬ (u < (20000 : Int64)) then (1 : Int32) else 0))] [(.long u), (.ref r0)])) t
    refine XS.iloadN X6.here hx rfl (hb hby da_23) rfl ?_
    refine XS.i2l X6.here hx rfl (hb hby da_24) rfl ?_
    refine XS.ladd X6.here hx rfl (hb hby da_25) rfl ?_
    exact k
  obtain ⟨T7, h7, X7, e7, W7, st7⟩ := putF X6 hx hZ hown (host := "") (Or.inl (hw _ (List.mem_of_getElem? (i := 36) rfl))) Via.refl e6 f4 f5 (Or.inl (hw _ (List.mem_of_getElem? (i := 37) rfl))) (hw _ (List.mem_of_getElem? (i := 1) rfl)) (ty := .long) (by decide) rfl rfl (g := (mkF m 26 #[.val (.ref r0), .val (.int p1), .val (.long q2), .second, .val (.int p3), .val (.int (if ¬ (u < (20000 : Int64)) then (1 : Int32) else 0))] [(.long (u + (p1.toInt64))), (.ref r0)])) rfl rfl (hb hby da_26)
  have N7 := Fr.snoc X7 N3 g_r0
  have K7 : Keep h0 h7 [r0] := K2.wr W7 (Or.inl (by simp))
  have Fw7 := f4.same W7
  refine own_go st7 ?_
  show own_Fin p.tables e below (T7.setTop (mkF m 29 #[.val (.ref r0), .val (.int p1), .val (.long q2), .second, .val (.int p3), .val (.int (if ¬ (u < (20000 : Int64)) then (1 : Int32) else 0))] [])) _
  refine own_go (B := T7.setTop (mkF m 31 #[.val (.ref r0), .val (.int p1), .val (.long q2), .second, .val (.int p3), .val (.int (if ¬ (u < (20000 : Int64)) then (1 : Int32) else 0))] [(.int p3)])) (fun t k => ?_) ?_
  · show Steps p.tables e below (T7.setTop (mkF m 29 #[.val (.ref r0), .val (.int p1), .val (.long q2), .second, .val (.int p3), .val (.int (if ¬ (u < (20000 : Int64)) then (1 : Int32) else 0))] [])) t
    refine XS.iload X7.here hx rfl (hb hby da_29) rfl ?_
    exact k
  by_cases hc8 : p3 = (0 : Int32)
  · skip
    refine own_go (B := T7.setTop (mkF m 39 #[.val (.ref r0), .val (.int p1), .val (.long q2), .second, .val (.int p3), .val (.int (if ¬ (u < (20000 : Int64)) then (1 : Int32) else 0))] [])) (fun t k => ?_) ?_
    · show Steps p.tables e below (T7.setTop (mkF m 31 #[.val (.ref r0), .val (.int p1), .val (.long q2), .second, .val (.int p3), .val (.int (if ¬ (u < (20000 : Int64)) then (1 : Int32) else 0))] [(.int p3)])) t
      refine XS.ifYes X7.here hx rfl (pc0 := 31) (pc' := 39) rfl (hb hby da_31) rfl ((if0 _ _).trans (teq hc8).1) (by decide) (by decide) ?_
      exact k
    obtain ⟨fs, hr, hrun, hended, hW, hsame⟩ := X7.leave (v := none) (fun _ => rfl)
    refine ⟨_, _, ?_, hrun, hended, _, _, rfl, ?_, ⟨_, rfl⟩, hW, hsame.mono (by decide) (by decide)⟩
    · exact X7.returnOut hx Bd.returns (hb hby da_39) hr
    · show Qa Z r0 p1 q2 p3 u lp ln nn K h0 n0 _ T7.heap _
      rw [e7]
      have f10 := (f5.wr W7)
      have f11 := ((F_ln.other W2 (Or.inr (slot_ne (Or.inl (hw _ (List.mem_of_getElem? (i := 20) rfl))) (Or.inl (hw _ (List.mem_of_getElem? (i := 11) rfl))) (by decide) (t := .double) (t' := .long) (by decide) (by decide)))).other W7 (Or.inr (slot_ne (Or.inl (hw _ (List.mem_of_getElem? (i := 20) rfl))) (Or.inl (hw _ (List.mem_of_getElem? (i := 37) rfl))) (by decide) (t := .double) (t' := .long) (by decide) (by decide))))
      have f12 := ((F_nn.other W2 (Or.inr (slot_ne (Or.inl (hw _ (List.mem_of_getElem? (i := 40) rfl))) (Or.inl (hw _ (List.mem_of_getElem? (i := 11) rfl))) (by decide) (t := .double) (t' := .long) (by decide) (by decide)))).other W7 (Or.inr (slot_ne (Or.inl (hw _ (List.mem_of_getElem? (i := 40) rfl))) (Or.inl (hw _ (List.mem_of_getElem? (i := 37) rfl))) (by decide) (t := .double) (t' := .long) (by decide) (by decide))))
      have f13 := (Fw2.other W7 (Or.inr (slot_ne (Or.inl (hw _ (List.mem_of_getElem? (i := 11) rfl))) (Or.inl (hw _ (List.mem_of_getElem? (i := 37) rfl))) (by decide) (t := .long) (t' := .long) (by decide) (by decide))))
      exact ⟨rfl, N7, K7, f10, Fw7, ln, nn, (if (1 : Int64) < (q2 / (p1.toInt64)) then (q2 / (p1.toInt64)) else (1 : Int64)), f11, f12, f13, mN.mono (by omega), mL.mono (by omega), (Or.inl ⟨Or.inl hc8, rfl⟩)⟩
  · skip
    refine own_go (B := T7.setTop (mkF m 36 #[.val (.ref r0), .val (.int p1), .val (.long q2), .second, .val (.int p3), .val (.int (if ¬ (u < (20000 : Int64)) then (1 : Int32) else 0))] [(.int (if ¬ (u < (20000 : Int64)) then (1 : Int32) else 0))])) (fun t k => ?_) ?_
    · show Steps p.tables e below (T7.setTop (mkF m 31 #[.val (.ref r0), .val (.int p1), .val (.long q2), .second, .val (.int p3), .val (.int (if ¬ (u < (20000 : Int64)) then (1 : Int32) else 0))] [(.int p3)])) t
      refine XS.ifNo X7.here hx rfl (hb hby da_31) rfl ((if0 _ _).trans (feq hc8).1) ?_
      refine XS.iload X7.here hx rfl (hb hby da_34) rfl ?_
      exact k
    by_cases hc14 : ¬ (u < (20000 : Int64))
    · skip
      refine own_go (B := T7.setTop (mkF m 41 #[.val (.ref r0), .val (.int p1), .val (.long q2), .second, .val (.int p3), .val (.int (if ¬ (u < (20000 : Int64)) then (1 : Int32) else 0))] [(.ref r0)])) (fun t k => ?_) ?_
      · show Steps p.tables e below (T7.setTop (mkF m 36 #[.val (.ref r0), .val (.int p1), .val (.long q2), .second, .val (.int p3), .val (.int (if ¬ (u < (20000 : Int64)) then (1 : Int32) else 0))] [(.int (if ¬ (u < (20000 : Int64)) then (1 : Int32) else 0))])) t
        refine XS.ifYes X7.here hx rfl (pc0 := 36) (pc' := 40) rfl (hb hby da_36) rfl (own_bneT hc14) (by decide) (by decide) ?_
        refine XS.aloadN X7.here hx rfl (hb hby da_40) rfl rfl ?_
        exact k
      have f16 := ((F_ln.other W2 (Or.inr (slot_ne (Or.inl (hw _ (List.mem_of_getElem? (i := 20) rfl))) (Or.inl (hw _ (List.mem_of_getElem? (i := 11) rfl))) (by decide) (t := .double) (t' := .long) (by decide) (by decide)))).other W7 (Or.inr (slot_ne (Or.inl (hw _ (List.mem_of_getElem? (i := 20) rfl))) (Or.inl (hw _ (List.mem_of_getElem? (i := 37) rfl))) (by decide) (t := .double) (t' := .long) (by decide) (by decide))))
      obtain ⟨T15, X15, e15, st15⟩ := getF X7 hx hZ hown (host := "") (Or.inl (hw _ (List.mem_of_getElem? (i := 19) rfl))) Via.refl e7 f16 (g := (mkF m 41 #[.val (.ref r0), .val (.int p1), .val (.long q2), .second, .val (.int p3), .val (.int (if ¬ (u < (20000 : Int64)) then (1 : Int32) else 0))] [(.ref r0)])) rfl rfl (hb hby da_41)
      refine own_go st15 ?_
      show own_Fin p.tables e below (T15.setTop (mkF m 44 #[.val (.ref r0), .val (.int p1), .val (.long q2), .second, .val (.int p3), .val (.int (if ¬ (u < (20000 : Int64)) then (1 : Int32) else 0))] [(.double ln)])) _
      refine own_go (B := T15.setTop (mkF m 46 #[.val (.ref r0), .val (.int p1), .val (.long q2), .second, .val (.int p3), .val (.int (if ¬ (u < (20000 : Int64)) then (1 : Int32) else 0))] [(.int (cmpValue (FP.dcmp ln FP.dconst0) .l))])) (fun t k => ?_) ?_
      · show Steps p.tables e below (T15.setTop (mkF m 44 #[.val (.ref r0), .val (.int p1), .val (.long q2), .second, .val (.int p3), .val (.int (if ¬ (u < (20000 : Int64)) then (1 : Int32) else 0))] [(.double ln)])) t
        refine XS.dconst0 X15.here hx rfl (hb hby da_44) rfl ?_
        refine XS.dcmpS X15.here hx rfl (hb hby da_45) rfl rfl ?_
        exact k
      by_cases hc17 : (0 : Int32) < (cmpValue (FP.dcmp ln FP.dconst0) .l)
      · skip
        refine own_go (B := T15.setTop (mkF m 52 #[.val (.ref r0), .val (.int p1), .val (.long q2), .second, .val (.int p3), .val (.int (if ¬ (u < (20000 : Int64)) then (1 : Int32) else 0))] [(.ref r0), (.double (FP.l2d q2))])) (fun t k => ?_) ?_
        · show Steps p.tables e below (T15.setTop (mkF m 46 #[.val (.ref r0), .val (.int p1), .val (.long q2), .second, .val (.int p3), .val (.int (if ¬ (u < (20000 : Int64)) then (1 : Int32) else 0))] [(.int (cmpValue (FP.dcmp ln FP.dconst0) .l))])) t
          refine XS.ifNo X15.here hx rfl (hb hby da_46) rfl ((if0 _ _).trans (tlt hc17).2.2.2) ?_
          refine XS.lloadN X15.here hx rfl (hb hby da_49) rfl ?_
          refine XS.l2dS X15.here hx rfl (hb hby da_50) rfl rfl ?_
          refine XS.aloadN X15.here hx rfl (hb hby da_51) rfl rfl ?_
          exact k
        have f19 := ((F_nn.other W2 (Or.inr (slot_ne (Or.inl (hw _ (List.mem_of_getElem? (i := 40) rfl))) (Or.inl (hw _ (List.mem_of_getElem? (i := 11) rfl))) (by decide) (t := .double) (t' := .long) (by decide) (by decide)))).other W7 (Or.inr (slot_ne (Or.inl (hw _ (List.mem_of_getElem? (i := 40) rfl))) (Or.inl (hw _ (List.mem_of_getElem? (i := 37) rfl))) (by decide) (t := .double) (t' := .long) (by decide) (by decide))))
        obtain ⟨T18, X18, e18, st18⟩ := getF X15 hx hZ hown (host := "") (Or.inl (hw _ (List.mem_of_getElem? (i := 39) rfl))) Via.refl e15 f19 (g := (mkF m 52 #[.val (.ref r0), .val (.int p1), .val (.long q2), .second, .val (.int p3), .val (.int (if ¬ (u < (20000 : Int64)) then (1 : Int32) else 0))] [(.ref r0), (.double (FP.l2d q2))])) rfl rfl (hb hby da_52)
        refine own_go st18 ?_
        show own_Fin p.tables e below (T18.setTop (mkF m 55 #[.val (.ref r0), .val (.int p1), .val (.long q2), .second, .val (.int p3), .val (.int (if ¬ (u < (20000 : Int64)) then (1 : Int32) else 0))] [(.double nn), (.double (FP.l2d q2))])) _
        refine own_go (B := T18.setTop (mkF m 56 #[.val (.ref r0), .val (.int p1), .val (.long q2), .second, .val (.int p3), .val (.int (if ¬ (u < (20000 : Int64)) then (1 : Int32) else 0))] [(.ref r0), (.double nn), (.double (FP.l2d q2))])) (fun t k => ?_) ?_
        · show Steps p.tables e below (T18.setTop (mkF m 55 #[.val (.ref r0), .val (.int p1), .val (.long q2), .second, .val (.int p3), .val (.int (if ¬ (u < (20000 : Int64)) then (1 : Int32) else 0))] [(.double nn), (.double (FP.l2d q2))])) t
          refine XS.aloadN X18.here hx rfl (hb hby da_55) rfl rfl ?_
          exact k
        obtain ⟨T20, X20, e20, st20⟩ := getF X18 hx hZ hown (host := "") (Or.inl (hw _ (List.mem_of_getElem? (i := 19) rfl))) Via.refl e18 f16 (g := (mkF m 56 #[.val (.ref r0), .val (.int p1), .val (.long q2), .second, .val (.int p3), .val (.int (if ¬ (u < (20000 : Int64)) then (1 : Int32) else 0))] [(.ref r0), (.double nn), (.double (FP.l2d q2))])) rfl rfl (hb hby da_56)
        refine own_go st20 ?_
        show own_Fin p.tables e below (T20.setTop (mkF m 59 #[.val (.ref r0), .val (.int p1), .val (.long q2), .second, .val (.int p3), .val (.int (if ¬ (u < (20000 : Int64)) then (1 : Int32) else 0))] [(.double ln), (.double nn), (.double (FP.l2d q2))])) _
        refine own_go (B := T20.setTop (mkF m 68 #[.val (.ref r0), .val (.int p1), .val (.long q2), .second, .val (.int p3), .val (.int (if ¬ (u < (20000 : Int64)) then (1 : Int32) else 0))] [(.int (cmpValue (FP.dcmp (FP.l2d q2) (FP.ddiv (FP.dmul (FP.ddiv nn ln) (FP.i2d p1)) (4611686018427387904 : UInt64))) .g))])) (fun t k => ?_) ?_
        · show Steps p.tables e below (T20.setTop (mkF m 59 #[.val (.ref r0), .val (.int p1), .val (.long q2), .second, .val (.int p3), .val (.int (if ¬ (u < (20000 : Int64)) then (1 : Int32) else 0))] [(.double ln), (.double nn), (.double (FP.l2d q2))])) t
          refine XS.ddivS X20.here hx rfl (hb hby da_59) rfl (own_noN (own_div mN (own_big hB hc17) (by omega)) (by omega)) rfl ?_
          refine XS.iloadN X20.here hx rfl (hb hby da_60) rfl ?_
          refine XS.i2dS X20.here hx rfl (hb hby da_61) rfl rfl ?_
          refine XS.dmulS X20.here hx rfl (hb hby da_62) rfl (own_noN (own_dm mN (own_big hB hc17) (by omega)) (by omega)) rfl ?_
          show Steps p.tables e below (T20.setTop (mkF m 63 #[.val (.ref r0), .val (.int p1), .val (.long q2), .second, .val (.int p3), .val (.int (if ¬ (u < (20000 : Int64)) then (1 : Int32) else 0))] [(.double (FP.dmul (FP.ddiv nn ln) (FP.i2d p1))), (.double (FP.l2d q2))])) t
          refine X20.ldc2DoubleC hx hown (mvT hZ (hw _ (List.mem_of_getElem? (i := 43) rfl))) (g := (mkF m 63 #[.val (.ref r0), .val (.int p1), .val (.long q2), .second, .val (.int p3), .val (.int (if ¬ (u < (20000 : Int64)) then (1 : Int32) else 0))] [(.double (FP.dmul (FP.ddiv nn ln) (FP.i2d p1))), (.double (FP.l2d q2))])) rfl (hb hby da_63) _ ?_
          refine XS.ddivS X20.here hx rfl (hb hby da_66) rfl (own_noN (own_dd mN (own_big hB hc17) (by omega)) (by omega)) rfl ?_
          refine XS.dcmpS X20.here hx rfl (hb hby da_67) rfl rfl ?_
          exact k
        by_cases hc21 : (cmpValue (FP.dcmp (FP.l2d q2) (FP.ddiv (FP.dmul (FP.ddiv nn ln) (FP.i2d p1)) (4611686018427387904 : UInt64))) .g) < (0 : Int32)
        · skip
          refine own_go (B := T20.setTop (mkF m 74 #[.val (.ref r0), .val (.int p1), .val (.long q2), .second, .val (.int p3), .val (.int (if ¬ (u < (20000 : Int64)) then (1 : Int32) else 0))] [(.double (FP.l2d q2)), (.ref r0)])) (fun t k => ?_) ?_
          · show Steps p.tables e below (T20.setTop (mkF m 68 #[.val (.ref r0), .val (.int p1), .val (.long q2), .second, .val (.int p3), .val (.int (if ¬ (u < (20000 : Int64)) then (1 : Int32) else 0))] [(.int (cmpValue (FP.dcmp (FP.l2d q2) (FP.ddiv (FP.dmul (FP.ddiv nn ln) (FP.i2d p1)) (4611686018427387904 : UInt64))) .g))])) t
            refine XS.ifNo X20.here hx rfl (hb hby da_68) rfl ((if0 _ _).trans (tlt hc21).2.1) ?_
            refine XS.aloadN X20.here hx rfl (hb hby da_71) rfl rfl ?_
            refine XS.lloadN X20.here hx rfl (hb hby da_72) rfl ?_
            refine XS.l2dS X20.here hx rfl (hb hby da_73) rfl rfl ?_
            exact k
          have f23 := (f5.wr W7)
          obtain ⟨T22, h22, X22, e22, W22, st22⟩ := putF X20 hx hZ hown (host := "") (Or.inl (hw _ (List.mem_of_getElem? (i := 39) rfl))) Via.refl e20 f19 f23 (Or.inl (hw _ (List.mem_of_getElem? (i := 40) rfl))) (hw _ (List.mem_of_getElem? (i := 1) rfl)) (ty := .double) (by decide) rfl rfl (g := (mkF m 74 #[.val (.ref r0), .val (.int p1), .val (.long q2), .second, .val (.int p3), .val (.int (if ¬ (u < (20000 : Int64)) then (1 : Int32) else 0))] [(.double (FP.l2d q2)), (.ref r0)])) rfl rfl (hb hby da_74)
          have N22 := Fr.snoc X22 N7 g_r0
          have K22 : Keep h0 h22 [r0] := K7.wr W22 (Or.inl (by simp))
          have Fw22 := f19.same W22
          refine own_go st22 ?_
          show own_Fin p.tables e below (T22.setTop (mkF m 77 #[.val (.ref r0), .val (.int p1), .val (.long q2), .second, .val (.int p3), .val (.int (if ¬ (u < (20000 : Int64)) then (1 : Int32) else 0))] [])) _
          refine own_go (B := T22.setTop (mkF m 80 #[.val (.ref r0), .val (.int p1), .val (.long q2), .second, .val (.int p3), .val (.int (if ¬ (u < (20000 : Int64)) then (1 : Int32) else 0))] [(.double (FP.i2d p1)), (.ref r0)])) (fun t k => ?_) ?_
          · show Steps p.tables e below (T22.setTop (mkF m 77 #[.val (.ref r0), .val (.int p1), .val (.long q2), .second, .val (.int p3), .val (.int (if ¬ (u < (20000 : Int64)) then (1 : Int32) else 0))] [])) t
            refine XS.aloadN X22.here hx rfl (hb hby da_77) rfl rfl ?_
            refine XS.iloadN X22.here hx rfl (hb hby da_78) rfl ?_
            refine XS.i2dS X22.here hx rfl (hb hby da_79) rfl rfl ?_
            exact k
          have f25 := (f16.other W22 (Or.inr (slot_ne (Or.inl (hw _ (List.mem_of_getElem? (i := 20) rfl))) (Or.inl (hw _ (List.mem_of_getElem? (i := 40) rfl))) (by decide) (t := .double) (t' := .double) (by decide) (by decide))))
          have f26 := (f23.wr W22)
          obtain ⟨T24, h24, X24, e24, W24, st24⟩ := putF X22 hx hZ hown (host := "") (Or.inl (hw _ (List.mem_of_getElem? (i := 19) rfl))) Via.refl e22 f25 f26 (Or.inl (hw _ (List.mem_of_getElem? (i := 20) rfl))) (hw _ (List.mem_of_getElem? (i := 1) rfl)) (ty := .double) (by decide) rfl rfl (g := (mkF m 80 #[.val (.ref r0), .val (.int p1), .val (.long q2), .second, .val (.int p3), .val (.int (if ¬ (u < (20000 : Int64)) then (1 : Int32) else 0))] [(.double (FP.i2d p1)), (.ref r0)])) rfl rfl (hb hby da_80)
          have N24 := Fr.snoc X24 N22 g_r0
          have K24 : Keep h0 h24 [r0] := K22.wr W24 (Or.inl (by simp))
          have Fw24 := f25.same W24
          refine own_go st24 ?_
          show own_Fin p.tables e below (T24.setTop (mkF m 83 #[.val (.ref r0), .val (.int p1), .val (.long q2), .second, .val (.int p3), .val (.int (if ¬ (u < (20000 : Int64)) then (1 : Int32) else 0))] [])) _
          obtain ⟨fs, hr, hrun, hended, hW, hsame⟩ := X24.leave (v := none) (fun _ => rfl)
          refine ⟨_, _, ?_, hrun, hended, _, _, rfl, ?_, ⟨_, rfl⟩, hW, hsame.mono (by decide) (by decide)⟩
          · exact X24.returnOut hx Bd.returns (hb hby da_83) hr
          · show Qa Z r0 p1 q2 p3 u lp ln nn K h0 n0 _ T24.heap _
            rw [e24]
            have f28 := (f26.wr W24)
            have f29 := ((Fw7.other W22 (Or.inr (slot_ne (Or.inl (hw _ (List.mem_of_getElem? (i := 37) rfl))) (Or.inl (hw _ (List.mem_of_getElem? (i := 40) rfl))) (by decide) (t := .long) (t' := .double) (by decide) (by decide)))).other W24 (Or.inr (slot_ne (Or.inl (hw _ (List.mem_of_getElem? (i := 37) rfl))) (Or.inl (hw _ (List.mem_of_getElem? (i := 20) rfl))) (by decide) (t := .long) (t' := .double) (by decide) (by decide))))
            have f30 := (Fw22.other W24 (Or.inr (slot_ne (Or.inl (hw _ (List.mem_of_getElem? (i := 40) rfl))) (Or.inl (hw _ (List.mem_of_getElem? (i := 20) rfl))) (by decide) (t := .double) (t' := .double) (by decide) (by decide))))
            have f31 := (((Fw2.other W7 (Or.inr (slot_ne (Or.inl (hw _ (List.mem_of_getElem? (i := 11) rfl))) (Or.inl (hw _ (List.mem_of_getElem? (i := 37) rfl))) (by decide) (t := .long) (t' := .long) (by decide) (by decide)))).other W22 (Or.inr (slot_ne (Or.inl (hw _ (List.mem_of_getElem? (i := 11) rfl))) (Or.inl (hw _ (List.mem_of_getElem? (i := 40) rfl))) (by decide) (t := .long) (t' := .double) (by decide) (by decide)))).other W24 (Or.inr (slot_ne (Or.inl (hw _ (List.mem_of_getElem? (i := 11) rfl))) (Or.inl (hw _ (List.mem_of_getElem? (i := 20) rfl))) (by decide) (t := .long) (t' := .double) (by decide) (by decide))))
            exact ⟨rfl, N24, K24, f28, f29, (FP.i2d p1), (FP.l2d q2), (if (1 : Int64) < (q2 / (p1.toInt64)) then (q2 / (p1.toInt64)) else (1 : Int64)), Fw24, f30, f31, (Fl.l2d_mag q2).mono (by omega), (Fl.i2d_mag p1).mono (by omega), (Or.inr ⟨hc8, hc14, Or.inr ⟨hc17, Or.inl rfl⟩⟩)⟩
        · skip
          refine own_go (B := T20.setTop (mkF m 86 #[.val (.ref r0), .val (.int p1), .val (.long q2), .second, .val (.int p3), .val (.int (if ¬ (u < (20000 : Int64)) then (1 : Int32) else 0))] [(.ref r0), (.ref r0)])) (fun t k => ?_) ?_
          · show Steps p.tables e below (T20.setTop (mkF m 68 #[.val (.ref r0), .val (.int p1), .val (.long q2), .second, .val (.int p3), .val (.int (if ¬ (u < (20000 : Int64)) then (1 : Int32) else 0))] [(.int (cmpValue (FP.dcmp (FP.l2d q2) (FP.ddiv (FP.dmul (FP.ddiv nn ln) (FP.i2d p1)) (4611686018427387904 : UInt64))) .g))])) t
            refine XS.ifYes X20.here hx rfl (pc0 := 68) (pc' := 84) rfl (hb hby da_68) rfl ((if0 _ _).trans (flt hc21).2.1) (by decide) (by decide) ?_
            refine XS.aloadN X20.here hx rfl (hb hby da_84) rfl rfl ?_
            refine XS.aloadN X20.here hx rfl (hb hby da_85) rfl rfl ?_
            exact k
          obtain ⟨T32, X32, e32, st32⟩ := getF X20 hx hZ hown (host := "") (Or.inl (hw _ (List.mem_of_getElem? (i := 39) rfl))) Via.refl e20 f19 (g := (mkF m 86 #[.val (.ref r0), .val (.int p1), .val (.long q2), .second, .val (.int p3), .val (.int (if ¬ (u < (20000 : Int64)) then (1 : Int32) else 0))] [(.ref r0), (.ref r0)])) rfl rfl (hb hby da_86)
          refine own_go st32 ?_
          show own_Fin p.tables e below (T32.setTop (mkF m 89 #[.val (.ref r0), .val (.int p1), .val (.long q2), .second, .val (.int p3), .val (.int (if ¬ (u < (20000 : Int64)) then (1 : Int32) else 0))] [(.double nn), (.ref r0)])) _
          refine own_go (B := T32.setTop (mkF m 96 #[.val (.ref r0), .val (.int p1), .val (.long q2), .second, .val (.int p3), .val (.int (if ¬ (u < (20000 : Int64)) then (1 : Int32) else 0))] [(.double (FP.dadd (FP.dmul nn (4606056518893174784 : UInt64)) (FP.l2d q2))), (.ref r0)])) (fun t k => ?_) ?_
          · show Steps p.tables e below (T32.setTop (mkF m 89 #[.val (.ref r0), .val (.int p1), .val (.long q2), .second, .val (.int p3), .val (.int (if ¬ (u < (20000 : Int64)) then (1 : Int32) else 0))] [(.double nn), (.ref r0)])) t
            refine X32.ldc2DoubleC hx hown (mvT hZ (hw _ (List.mem_of_getElem? (i := 41) rfl))) (g := (mkF m 89 #[.val (.ref r0), .val (.int p1), .val (.long q2), .second, .val (.int p3), .val (.int (if ¬ (u < (20000 : Int64)) then (1 : Int32) else 0))] [(.double nn), (.ref r0)])) rfl (hb hby da_89) _ ?_
            refine XS.dmulS X32.here hx rfl (hb hby da_92) rfl (own_noN (own_mul875 mN (by omega)) (by omega)) rfl ?_
            refine XS.lloadN X32.here hx rfl (hb hby da_93) rfl ?_
            refine XS.l2dS X32.here hx rfl (hb hby da_94) rfl rfl ?_
            show Steps p.tables e below (T32.setTop (mkF m 95 #[.val (.ref r0), .val (.int p1), .val (.long q2), .second, .val (.int p3), .val (.int (if ¬ (u < (20000 : Int64)) then (1 : Int32) else 0))] [(.double (FP.l2d q2)), (.double (FP.dmul nn (4606056518893174784 : UInt64))), (.ref r0)])) t
            refine XS.daddS X32.here hx rfl (hb hby da_95) rfl (own_noN (own_grow mN (by omega) (by omega) (Fl.l2d_mag q2)) (by omega)) rfl ?_
            exact k
          have f34 := (f5.wr W7)
          obtain ⟨T33, h33, X33, e33, W33, st33⟩ := putF X32 hx hZ hown (host := "") (Or.inl (hw _ (List.mem_of_getElem? (i := 39) rfl))) Via.refl e32 f19 f34 (Or.inl (hw _ (List.mem_of_getElem? (i := 40) rfl))) (hw _ (List.mem_of_getElem? (i := 1) rfl)) (ty := .double) (by decide) rfl rfl (g := (mkF m 96 #[.val (.ref r0), .val (.int p1), .val (.long q2), .second, .val (.int p3), .val (.int (if ¬ (u < (20000 : Int64)) then (1 : Int32) else 0))] [(.double (FP.dadd (FP.dmul nn (4606056518893174784 : UInt64)) (FP.l2d q2))), (.ref r0)])) rfl rfl (hb hby da_96)
          have N33 := Fr.snoc X33 N7 g_r0
          have K33 : Keep h0 h33 [r0] := K7.wr W33 (Or.inl (by simp))
          have Fw33 := f19.same W33
          refine own_go st33 ?_
          show own_Fin p.tables e below (T33.setTop (mkF m 99 #[.val (.ref r0), .val (.int p1), .val (.long q2), .second, .val (.int p3), .val (.int (if ¬ (u < (20000 : Int64)) then (1 : Int32) else 0))] [])) _
          refine own_go (B := T33.setTop (mkF m 101 #[.val (.ref r0), .val (.int p1), .val (.long q2), .second, .val (.int p3), .val (.int (if ¬ (u < (20000 : Int64)) then (1 : Int32) else 0))] [(.ref r0), (.ref r0)])) (fun t k => ?_) ?_
          · show Steps p.tables e below (T33.setTop (mkF m 99 #[.val (.ref r0), .val (.int p1), .val (.long q2), .second, .val (.int p3), .val (.int (if ¬ (u < (20000 : Int64)) then (1 : Int32) else 0))] [])) t
            refine XS.aloadN X33.here hx rfl (hb hby da_99) rfl rfl ?_
            refine XS.aloadN X33.here hx rfl (hb hby da_100) rfl rfl ?_
            exact k
          have f36 := (f16.other W33 (Or.inr (slot_ne (Or.inl (hw _ (List.mem_of_getElem? (i := 20) rfl))) (Or.inl (hw _ (List.mem_of_getElem? (i := 40) rfl))) (by decide) (t := .double) (t' := .double) (by decide) (by decide))))
          obtain ⟨T35, X35, e35, st35⟩ := getF X33 hx hZ hown (host := "") (Or.inl (hw _ (List.mem_of_getElem? (i := 19) rfl))) Via.refl e33 f36 (g := (mkF m 101 #[.val (.ref r0), .val (.int p1), .val (.long q2), .second, .val (.int p3), .val (.int (if ¬ (u < (20000 : Int64)) then (1 : Int32) else 0))] [(.ref r0), (.ref r0)])) rfl rfl (hb hby da_101)
          refine own_go st35 ?_
          show own_Fin p.tables e below (T35.setTop (mkF m 104 #[.val (.ref r0), .val (.int p1), .val (.long q2), .second, .val (.int p3), .val (.int (if ¬ (u < (20000 : Int64)) then (1 : Int32) else 0))] [(.double ln), (.ref r0)])) _
          refine own_go (B := T35.setTop (mkF m 111 #[.val (.ref r0), .val (.int p1), .val (.long q2), .second, .val (.int p3), .val (.int (if ¬ (u < (20000 : Int64)) then (1 : Int32) else 0))] [(.double (FP.dadd (FP.dmul ln (4606056518893174784 : UInt64)) (FP.i2d p1))), (.ref r0)])) (fun t k => ?_) ?_
          · show Steps p.tables e below (T35.setTop (mkF m 104 #[.val (.ref r0), .val (.int p1), .val (.long q2), .second, .val (.int p3), .val (.int (if ¬ (u < (20000 : Int64)) then (1 : Int32) else 0))] [(.double ln), (.ref r0)])) t
            refine X35.ldc2DoubleC hx hown (mvT hZ (hw _ (List.mem_of_getElem? (i := 41) rfl))) (g := (mkF m 104 #[.val (.ref r0), .val (.int p1), .val (.long q2), .second, .val (.int p3), .val (.int (if ¬ (u < (20000 : Int64)) then (1 : Int32) else 0))] [(.double ln), (.ref r0)])) rfl (hb hby da_104) _ ?_
            refine XS.dmulS X35.here hx rfl (hb hby da_107) rfl (own_noN (own_mul875 mL (by omega)) (by omega)) rfl ?_
            refine XS.iloadN X35.here hx rfl (hb hby da_108) rfl ?_
            refine XS.i2dS X35.here hx rfl (hb hby da_109) rfl rfl ?_
            show Steps p.tables e below (T35.setTop (mkF m 110 #[.val (.ref r0), .val (.int p1), .val (.long q2), .second, .val (.int p3), .val (.int (if ¬ (u < (20000 : Int64)) then (1 : Int32) else 0))] [(.double (FP.i2d p1)), (.double (FP.dmul ln (4606056518893174784 : UInt64))), (.ref r0)])) t
            refine XS.daddS X35.here hx rfl (hb hby da_110) rfl (own_noN (own_grow mL (by omega) (by omega) (Fl.i2d_mag p1)) (by omega)) rfl ?_
            exact k
          have f38 := (f34.wr W33)
          obtain ⟨T37, h37, X37, e37, W37, st37⟩ := putF X35 hx hZ hown (host := "") (Or.inl (hw _ (List.mem_of_getElem? (i := 19) rfl))) Via.refl e35 f36 f38 (Or.inl (hw _ (List.mem_of_getElem? (i := 20) rfl))) (hw _ (List.mem_of_getElem? (i := 1) rfl)) (ty := .double) (by decide) rfl rfl (g := (mkF m 111 #[.val (.ref r0), .val (.int p1), .val (.long q2), .second, .val (.int p3), .val (.int (if ¬ (u < (20000 : Int64)) then (1 : Int32) else 0))] [(.double (FP.dadd (FP.dmul ln (4606056518893174784 : UInt64)) (FP.i2d p1))), (.ref r0)])) rfl rfl (hb hby da_111)
          have N37 := Fr.snoc X37 N33 g_r0
          have K37 : Keep h0 h37 [r0] := K33.wr W37 (Or.inl (by simp))
          have Fw37 := f36.same W37
          refine own_go st37 ?_
          show own_Fin p.tables e below (T37.setTop (mkF m 114 #[.val (.ref r0), .val (.int p1), .val (.long q2), .second, .val (.int p3), .val (.int (if ¬ (u < (20000 : Int64)) then (1 : Int32) else 0))] [])) _
          obtain ⟨fs, hr, hrun, hended, hW, hsame⟩ := X37.leave (v := none) (fun _ => rfl)
          refine ⟨_, _, ?_, hrun, hended, _, _, rfl, ?_, ⟨_, rfl⟩, hW, hsame.mono (by decide) (by decide)⟩
          · exact X37.returnOut hx Bd.returns (hb hby da_114) hr
          · show Qa Z r0 p1 q2 p3 u lp ln nn K h0 n0 _ T37.heap _
            rw [e37]
            have f40 := (f38.wr W37)
            have f41 := ((Fw7.other W33 (Or.inr (slot_ne (Or.inl (hw _ (List.mem_of_getElem? (i := 37) rfl))) (Or.inl (hw _ (List.mem_of_getElem? (i := 40) rfl))) (by decide) (t := .long) (t' := .double) (by decide) (by decide)))).other W37 (Or.inr (slot_ne (Or.inl (hw _ (List.mem_of_getElem? (i := 37) rfl))) (Or.inl (hw _ (List.mem_of_getElem? (i := 20) rfl))) (by decide) (t := .long) (t' := .double) (by decide) (by decide))))
            have f42 := (Fw33.other W37 (Or.inr (slot_ne (Or.inl (hw _ (List.mem_of_getElem? (i := 40) rfl))) (Or.inl (hw _ (List.mem_of_getElem? (i := 20) rfl))) (by decide) (t := .double) (t' := .double) (by decide) (by decide))))
            have f43 := (((Fw2.other W7 (Or.inr (slot_ne (Or.inl (hw _ (List.mem_of_getElem? (i := 11) rfl))) (Or.inl (hw _ (List.mem_of_getElem? (i := 37) rfl))) (by decide) (t := .long) (t' := .long) (by decide) (by decide)))).other W33 (Or.inr (slot_ne (Or.inl (hw _ (List.mem_of_getElem? (i := 11) rfl))) (Or.inl (hw _ (List.mem_of_getElem? (i := 40) rfl))) (by decide) (t := .long) (t' := .double) (by decide) (by decide)))).other W37 (Or.inr (slot_ne (Or.inl (hw _ (List.mem_of_getElem? (i := 11) rfl))) (Or.inl (hw _ (List.mem_of_getElem? (i := 20) rfl))) (by decide) (t := .long) (t' := .double) (by decide) (by decide))))
            exact ⟨rfl, N37, K37, f40, f41, (FP.dadd (FP.dmul ln (4606056518893174784 : UInt64)) (FP.i2d p1)), (FP.dadd (FP.dmul nn (4606056518893174784 : UInt64)) (FP.l2d q2)), (if (1 : Int64) < (q2 / (p1.toInt64)) then (q2 / (p1.toInt64)) else (1 : Int64)), Fw37, f42, f43, own_grow mN (by omega) (by omega) (Fl.l2d_mag q2), own_grow mL (by omega) (by omega) (Fl.i2d_mag p1), (Or.inr ⟨hc8, hc14, Or.inr ⟨hc17, Or.inr rfl⟩⟩)⟩
      · skip
        refine own_go (B := T15.setTop (mkF m 86 #[.val (.ref r0), .val (.int p1), .val (.long q2), .second, .val (.int p3), .val (.int (if ¬ (u < (20000 : Int64)) then (1 : Int32) else 0))] [(.ref r0), (.ref r0)])) (fun t k => ?_) ?_
        · show Steps p.tables e below (T15.setTop (mkF m 46 #[.val (.ref r0), .val (.int p1), .val (.long q2), .second, .val (.int p3), .val (.int (if ¬ (u < (20000 : Int64)) then (1 : Int32) else 0))] [(.int (cmpValue (FP.dcmp ln FP.dconst0) .l))])) t
          refine XS.ifYes X15.here hx rfl (pc0 := 46) (pc' := 84) rfl (hb hby da_46) rfl ((if0 _ _).trans (flt hc17).2.2.2) (by decide) (by decide) ?_
          refine XS.aloadN X15.here hx rfl (hb hby da_84) rfl rfl ?_
          refine XS.aloadN X15.here hx rfl (hb hby da_85) rfl rfl ?_
          exact k
        have f45 := ((F_nn.other W2 (Or.inr (slot_ne (Or.inl (hw _ (List.mem_of_getElem? (i := 40) rfl))) (Or.inl (hw _ (List.mem_of_getElem? (i := 11) rfl))) (by decide) (t := .double) (t' := .long) (by decide) (by decide)))).other W7 (Or.inr (slot_ne (Or.inl (hw _ (List.mem_of_getElem? (i := 40) rfl))) (Or.inl (hw _ (List.mem_of_getElem? (i := 37) rfl))) (by decide) (t := .double) (t' := .long) (by decide) (by decide))))
        obtain ⟨T44, X44, e44, st44⟩ := getF X15 hx hZ hown (host := "") (Or.inl (hw _ (List.mem_of_getElem? (i := 39) rfl))) Via.refl e15 f45 (g := (mkF m 86 #[.val (.ref r0), .val (.int p1), .val (.long q2), .second, .val (.int p3), .val (.int (if ¬ (u < (20000 : Int64)) then (1 : Int32) else 0))] [(.ref r0), (.ref r0)])) rfl rfl (hb hby da_86)
        refine own_go st44 ?_
        show own_Fin p.tables e below (T44.setTop (mkF m 89 #[.val (.ref r0), .val (.int p1), .val (.long q2), .second, .val (.int p3), .val (.int (if ¬ (u < (20000 : Int64)) then (1 : Int32) else 0))] [(.double nn), (.ref r0)])) _
        refine own_go (B := T44.setTop (mkF m 96 #[.val (.ref r0), .val (.int p1), .val (.long q2), .second, .val (.int p3), .val (.int (if ¬ (u < (20000 : Int64)) then (1 : Int32) else 0))] [(.double (FP.dadd (FP.dmul nn (4606056518893174784 : UInt64)) (FP.l2d q2))), (.ref r0)])) (fun t k => ?_) ?_
        · show Steps p.tables e below (T44.setTop (mkF m 89 #[.val (.ref r0), .val (.int p1), .val (.long q2), .second, .val (.int p3), .val (.int (if ¬ (u < (20000 : Int64)) then (1 : Int32) else 0))] [(.double nn), (.ref r0)])) t
          refine X44.ldc2DoubleC hx hown (mvT hZ (hw _ (List.mem_of_getElem? (i := 41) rfl))) (g := (mkF m 89 #[.val (.ref r0), .val (.int p1), .val (.long q2), .second, .val (.int p3), .val (.int (if ¬ (u < (20000 : Int64)) then (1 : Int32) else 0))] [(.double nn), (.ref r0)])) rfl (hb hby da_89) _ ?_
          refine XS.dmulS X44.here hx rfl (hb hby da_92) rfl (own_noN (own_mul875 mN (by omega)) (by omega)) rfl ?_
          refine XS.lloadN X44.here hx rfl (hb hby da_93) rfl ?_
          refine XS.l2dS X44.here hx rfl (hb hby da_94) rfl rfl ?_
          show Steps p.tables e below (T44.setTop (mkF m 95 #[.val (.ref r0), .val (.int p1), .val (.long q2), .second, .val (.int p3), .val (.int (if ¬ (u < (20000 : Int64)) then (1 : Int32) else 0))] [(.double (FP.l2d q2)), (.double (FP.dmul nn (4606056518893174784 : UInt64))), (.ref r0)])) t
          refine XS.daddS X44.here hx rfl (hb hby da_95) rfl (own_noN (own_grow mN (by omega) (by omega) (Fl.l2d_mag q2)) (by omega)) rfl ?_
          exact k
        have f47 := (f5.wr W7)
        obtain ⟨T46, h46, X46, e46, W46, st46⟩ := putF X44 hx hZ hown (host := "") (Or.inl (hw _ (List.mem_of_getElem? (i := 39) rfl))) Via.refl e44 f45 f47 (Or.inl (hw _ (List.mem_of_getElem? (i := 40) rfl))) (hw _ (List.mem_of_getElem? (i := 1) rfl)) (ty := .double) (by decide) rfl rfl (g := (mkF m 96 #[.val (.ref r0), .val (.int p1), .val (.long q2), .second, .val (.int p3), .val (.int (if ¬ (u < (20000 : Int64)) then (1 : Int32) else 0))] [(.double (FP.dadd (FP.dmul nn (4606056518893174784 : UInt64)) (FP.l2d q2))), (.ref r0)])) rfl rfl (hb hby da_96)
        have N46 := Fr.snoc X46 N7 g_r0
        have K46 : Keep h0 h46 [r0] := K7.wr W46 (Or.inl (by simp))
        have Fw46 := f45.same W46
        refine own_go st46 ?_
        show own_Fin p.tables e below (T46.setTop (mkF m 99 #[.val (.ref r0), .val (.int p1), .val (.long q2), .second, .val (.int p3), .val (.int (if ¬ (u < (20000 : Int64)) then (1 : Int32) else 0))] [])) _
        refine own_go (B := T46.setTop (mkF m 101 #[.val (.ref r0), .val (.int p1), .val (.long q2), .second, .val (.int p3), .val (.int (if ¬ (u < (20000 : Int64)) then (1 : Int32) else 0))] [(.ref r0), (.ref r0)])) (fun t k => ?_) ?_
        · show Steps p.tables e below (T46.setTop (mkF m 99 #[.val (.ref r0), .val (.int p1), .val (.long q2), .second, .val (.int p3), .val (.int (if ¬ (u < (20000 : Int64)) then (1 : Int32) else 0))] [])) t
          refine XS.aloadN X46.here hx rfl (hb hby da_99) rfl rfl ?_
          refine XS.aloadN X46.here hx rfl (hb hby da_100) rfl rfl ?_
          exact k
        have f49 := (f16.other W46 (Or.inr (slot_ne (Or.inl (hw _ (List.mem_of_getElem? (i := 20) rfl))) (Or.inl (hw _ (List.mem_of_getElem? (i := 40) rfl))) (by decide) (t := .double) (t' := .double) (by decide) (by decide))))
        obtain ⟨T48, X48, e48, st48⟩ := getF X46 hx hZ hown (host := "") (Or.inl (hw _ (List.mem_of_getElem? (i := 19) rfl))) Via.refl e46 f49 (g := (mkF m 101 #[.val (.ref r0), .val (.int p1), .val (.long q2), .second, .val (.int p3), .val (.int (if ¬ (u < (20000 : Int64)) then (1 : Int32) else 0))] [(.ref r0), (.ref r0)])) rfl rfl (hb hby da_101)
        refine own_go st48 ?_
        show own_Fin p.tables e below (T48.setTop (mkF m 104 #[.val (.ref r0), .val (.int p1), .val (.long q2), .second, .val (.int p3), .val (.int (if ¬ (u < (20000 : Int64)) then (1 : Int32) else 0))] [(.double ln), (.ref r0)])) _
        refine own_go (B := T48.setTop (mkF m 111 #[.val (.ref r0), .val (.int p1), .val (.long q2), .second, .val (.int p3), .val (.int (if ¬ (u < (20000 : Int64)) then (1 : Int32) else 0))] [(.double (FP.dadd (FP.dmul ln (4606056518893174784 : UInt64)) (FP.i2d p1))), (.ref r0)])) (fun t k => ?_) ?_
        · show Steps p.tables e below (T48.setTop (mkF m 104 #[.val (.ref r0), .val (.int p1), .val (.long q2), .second, .val (.int p3), .val (.int (if ¬ (u < (20000 : Int64)) then (1 : Int32) else 0))] [(.double ln), (.ref r0)])) t
          refine X48.ldc2DoubleC hx hown (mvT hZ (hw _ (List.mem_of_getElem? (i := 41) rfl))) (g := (mkF m 104 #[.val (.ref r0), .val (.int p1), .val (.long q2), .second, .val (.int p3), .val (.int (if ¬ (u < (20000 : Int64)) then (1 : Int32) else 0))] [(.double ln), (.ref r0)])) rfl (hb hby da_104) _ ?_
          refine XS.dmulS X48.here hx rfl (hb hby da_107) rfl (own_noN (own_mul875 mL (by omega)) (by omega)) rfl ?_
          refine XS.iloadN X48.here hx rfl (hb hby da_108) rfl ?_
          refine XS.i2dS X48.here hx rfl (hb hby da_109) rfl rfl ?_
          show Steps p.tables e below (T48.setTop (mkF m 110 #[.val (.ref r0), .val (.int p1), .val (.long q2), .second, .val (.int p3), .val (.int (if ¬ (u < (20000 : Int64)) then (1 : Int32) else 0))] [(.double (FP.i2d p1)), (.double (FP.dmul ln (4606056518893174784 : UInt64))), (.ref r0)])) t
          refine XS.daddS X48.here hx rfl (hb hby da_110) rfl (own_noN (own_grow mL (by omega) (by omega) (Fl.i2d_mag p1)) (by omega)) rfl ?_
          exact k
        have f51 := (f47.wr W46)
        obtain ⟨T50, h50, X50, e50, W50, st50⟩ := putF X48 hx hZ hown (host := "") (Or.inl (hw _ (List.mem_of_getElem? (i := 19) rfl))) Via.refl e48 f49 f51 (Or.inl (hw _ (List.mem_of_getElem? (i := 20) rfl))) (hw _ (List.mem_of_getElem? (i := 1) rfl)) (ty := .double) (by decide) rfl rfl (g := (mkF m 111 #[.val (.ref r0), .val (.int p1), .val (.long q2), .second, .val (.int p3), .val (.int (if ¬ (u < (20000 : Int64)) then (1 : Int32) else 0))] [(.double (FP.dadd (FP.dmul ln (4606056518893174784 : UInt64)) (FP.i2d p1))), (.ref r0)])) rfl rfl (hb hby da_111)
        have N50 := Fr.snoc X50 N46 g_r0
        have K50 : Keep h0 h50 [r0] := K46.wr W50 (Or.inl (by simp))
        have Fw50 := f49.same W50
        refine own_go st50 ?_
        show own_Fin p.tables e below (T50.setTop (mkF m 114 #[.val (.ref r0), .val (.int p1), .val (.long q2), .second, .val (.int p3), .val (.int (if ¬ (u < (20000 : Int64)) then (1 : Int32) else 0))] [])) _
        obtain ⟨fs, hr, hrun, hended, hW, hsame⟩ := X50.leave (v := none) (fun _ => rfl)
        refine ⟨_, _, ?_, hrun, hended, _, _, rfl, ?_, ⟨_, rfl⟩, hW, hsame.mono (by decide) (by decide)⟩
        · exact X50.returnOut hx Bd.returns (hb hby da_114) hr
        · show Qa Z r0 p1 q2 p3 u lp ln nn K h0 n0 _ T50.heap _
          rw [e50]
          have f53 := (f51.wr W50)
          have f54 := ((Fw7.other W46 (Or.inr (slot_ne (Or.inl (hw _ (List.mem_of_getElem? (i := 37) rfl))) (Or.inl (hw _ (List.mem_of_getElem? (i := 40) rfl))) (by decide) (t := .long) (t' := .double) (by decide) (by decide)))).other W50 (Or.inr (slot_ne (Or.inl (hw _ (List.mem_of_getElem? (i := 37) rfl))) (Or.inl (hw _ (List.mem_of_getElem? (i := 20) rfl))) (by decide) (t := .long) (t' := .double) (by decide) (by decide))))
          have f55 := (Fw46.other W50 (Or.inr (slot_ne (Or.inl (hw _ (List.mem_of_getElem? (i := 40) rfl))) (Or.inl (hw _ (List.mem_of_getElem? (i := 20) rfl))) (by decide) (t := .double) (t' := .double) (by decide) (by decide))))
          have f56 := (((Fw2.other W7 (Or.inr (slot_ne (Or.inl (hw _ (List.mem_of_getElem? (i := 11) rfl))) (Or.inl (hw _ (List.mem_of_getElem? (i := 37) rfl))) (by decide) (t := .long) (t' := .long) (by decide) (by decide)))).other W46 (Or.inr (slot_ne (Or.inl (hw _ (List.mem_of_getElem? (i := 11) rfl))) (Or.inl (hw _ (List.mem_of_getElem? (i := 40) rfl))) (by decide) (t := .long) (t' := .double) (by decide) (by decide)))).other W50 (Or.inr (slot_ne (Or.inl (hw _ (List.mem_of_getElem? (i := 11) rfl))) (Or.inl (hw _ (List.mem_of_getElem? (i := 20) rfl))) (by decide) (t := .long) (t' := .double) (by decide) (by decide))))
          exact ⟨rfl, N50, K50, f53, f54, (FP.dadd (FP.dmul ln (4606056518893174784 : UInt64)) (FP.i2d p1)), (FP.dadd (FP.dmul nn (4606056518893174784 : UInt64)) (FP.l2d q2)), (if (1 : Int64) < (q2 / (p1.toInt64)) then (q2 / (p1.toInt64)) else (1 : Int64)), Fw50, f55, f56, own_grow mN (by omega) (by omega) (Fl.l2d_mag q2), own_grow mL (by omega) (by omega) (Fl.i2d_mag p1), (Or.inr ⟨hc8, hc14, Or.inl ⟨hc17, rfl⟩⟩)⟩
    · skip
      refine own_go (B := T7.setTop (mkF m 39 #[.val (.ref r0), .val (.int p1), .val (.long q2), .second, .val (.int p3), .val (.int (if ¬ (u < (20000 : Int64)) then (1 : Int32) else 0))] [])) (fun t k => ?_) ?_
      · show Steps p.tables e below (T7.setTop (mkF m 36 #[.val (.ref r0), .val (.int p1), .val (.long q2), .second, .val (.int p3), .val (.int (if ¬ (u < (20000 : Int64)) then (1 : Int32) else 0))] [(.int (if ¬ (u < (20000 : Int64)) then (1 : Int32) else 0))])) t
        refine XS.ifNo X7.here hx rfl (hb hby da_36) rfl (own_bneF hc14) ?_
        exact k
      obtain ⟨fs, hr, hrun, hended, hW, hsame⟩ := X7.leave (v := none) (fun _ => rfl)
      refine ⟨_, _, ?_, hrun, hended, _, _, rfl, ?_, ⟨_, rfl⟩, hW, hsame.mono (by decide) (by decide)⟩
      · exact X7.returnOut hx Bd.returns (hb hby da_39) hr
      · show Qa Z r0 p1 q2 p3 u lp ln nn K h0 n0 _ T7.heap _
        rw [e7]
        have f58 := (f5.wr W7)
        have f59 := ((F_ln.other W2 (Or.inr (slot_ne (Or.inl (hw _ (List.mem_of_getElem? (i := 20) rfl))) (Or.inl (hw _ (List.mem_of_getElem? (i := 11) rfl))) (by decide) (t := .double) (t' := .long) (by decide) (by decide)))).other W7 (Or.inr (slot_ne (Or.inl (hw _ (List.mem_of_getElem? (i := 20) rfl))) (Or.inl (hw _ (List.mem_of_getElem? (i := 37) rfl))) (by decide) (t := .double) (t' := .long) (by decide) (by decide))))
        have f60 := ((F_nn.other W2 (Or.inr (slot_ne (Or.inl (hw _ (List.mem_of_getElem? (i := 40) rfl))) (Or.inl (hw _ (List.mem_of_getElem? (i := 11) rfl))) (by decide) (t := .double) (t' := .long) (by decide) (by decide)))).other W7 (Or.inr (slot_ne (Or.inl (hw _ (List.mem_of_getElem? (i := 40) rfl))) (Or.inl (hw _ (List.mem_of_getElem? (i := 37) rfl))) (by decide) (t := .double) (t' := .long) (by decide) (by decide))))
        have f61 := (Fw2.other W7 (Or.inr (slot_ne (Or.inl (hw _ (List.mem_of_getElem? (i := 11) rfl))) (Or.inl (hw _ (List.mem_of_getElem? (i := 37) rfl))) (by decide) (t := .long) (t' := .long) (by decide) (by decide))))
        exact ⟨rfl, N7, K7, f58, Fw7, ln, nn, (if (1 : Int64) < (q2 / (p1.toInt64)) then (q2 / (p1.toInt64)) else (1 : Int64)), f59, f60, f61, mN.mono (by omega), mL.mono (by omega), (Or.inl ⟨Or.inr (Decidable.byContradiction fun q => hc14 q), rfl⟩)⟩
abbrev own_pos (x : UInt64) : Prop := (0 : Int32) < (cmpValue (FP.dcmp x FP.dconst0) .l)
theorem own_d0 : FP.dconst0 = (0 : UInt64) := by decide +kernel
theorem own_posI {x : UInt64} : own_pos x ↔ FP.Core.dcmp x 0 = some .gt := by
  show (0 : Int32) < cmpValue (FP.Core.dcmp x FP.dconst0) .l ↔ _
  rw [own_d0]
  generalize FP.Core.dcmp x 0 = o
  rcases o with _ | (_ | _ | _) <;> decide
theorem own_posZ {x : UInt64} : own_pos x ↔ FP.Core.val64 x ≠ .nan ∧ 0 < FP.Core.zval FP.Core.b64 (FP.Core.val64 x) := by
  rw [own_posI, FP.Core.dcmp_gt, FP.Core.zval64_zero]
  constructor
  · rintro ⟨h1, -, h2⟩; exact ⟨h1, h2⟩
  · rintro ⟨h1, h2⟩; exact ⟨h1, by rw [FP.Core.val64_zero]; nofun, h2⟩
theorem own_pos0 : ¬ own_pos 0 := by decide +kernel
theorem own_fin {K : Nat} {x : UInt64} (h : Fl.Mag64 K x) (hK : K ≤ 2047) : FP.Core.DFin x := Fl.fin64_core.mp (h.fin hK)
theorem own_shape (a : Int32) (h : 0 < a.toInt) : ∃ c q, FP.Core.val64 (FP.i2d a) = .fin false c q := by
  rw [i2d_w]
  obtain ⟨c, q, e⟩ := FP.Core.l2d_shape a.toInt64
  rw [c_i2l] at e
  exact ⟨c, q, by rw [show FP.l2d a.toInt64 = FP.Core.l2d a.toInt64 from rfl, e, decide_eq_false (by omega)]⟩
theorem own_posInt {a : Int32} (h : 0 < a.toInt) : own_pos (FP.i2d a) := by
  rw [own_posZ]
  obtain ⟨c, q, e⟩ := own_shape a h
  refine ⟨by rw [e]; nofun, ?_⟩
  have h1 : FP.Core.val64 (FP.i2d a) ≠ .nan := by rw [e]; nofun
  have hb := own_i2dBig (x := a) (fun z => by rw [z] at h; exact absurd h (by decide))
  have h0 : ¬ FP.Core.zval FP.Core.b64 (FP.Core.val64 (FP.i2d a)) = 0 := by
    rw [FP.Core.zval_eq_zero h1]
    have := hb.1
    intro q
    have e63 : (2 : Nat) ^ 63 = 9223372036854775808 := by decide
    rw [e63] at q
    omega
  have hn : 0 ≤ FP.Core.zval FP.Core.b64 (FP.Core.val64 (FP.i2d a)) := by
    rw [e]; show 0 ≤ FP.Core.signed false _; simp [FP.Core.signed]
  omega
theorem own_val875 : ∃ c q, FP.Core.val64 (4606056518893174784 : UInt64) = .fin false c q := ⟨7881299347898368, -53, by decide +kernel⟩
theorem own_posSum {a b : Int32} (ha : 0 < a.toInt) (hb : 0 < b.toInt) : own_pos (FP.dadd (FP.dmul (FP.i2d a) (4606056518893174784 : UInt64)) (FP.i2d b)) := by
  have m1 := own_mul875 (Fl.i2d_mag a) (by decide)
  have m2 := own_grow (K := 1056) (Fl.i2d_mag a) (by decide) (by decide : 1056 ≤ _) (Fl.i2d_mag b)
  have pb := (own_posZ.mp (own_posInt hb))
  obtain ⟨c1, q1, e1⟩ := own_shape a ha
  obtain ⟨c2, q2, e2⟩ := own_val875
  have ex : FP.Core.val64 (FP.dmul (FP.i2d a) (4606056518893174784 : UInt64)) = FP.Core.roundRatio FP.Core.b64 false (c1 * c2) 1 (q1 + q2) := by
    rw [show FP.dmul (FP.i2d a) (4606056518893174784 : UInt64) = FP.Core.dmul (FP.i2d a) (4606056518893174784 : UInt64) from rfl, FP.Core.val64_dmul, e1, e2]
    rfl
  have sx : 0 ≤ FP.Core.zval FP.Core.b64 (FP.Core.val64 (FP.dmul (FP.i2d a) (4606056518893174784 : UInt64))) := by
    unfold FP.Core.zval
    rw [ex, FP.Core.sgn_roundRatio]
    simp [FP.Core.signed]
  rw [own_posZ]
  refine ⟨Fl.val64_no.mp (own_noN m2 (by decide)), ?_⟩
  have g := FP.Core.sum_ge FP.Core.good_b64 (own_fin m1 (by decide)) (own_fin (Fl.i2d_mag b) (by decide)) (FP.Core.val64_fits _) (FP.Core.val64_fits _) (FP.Core.val64_fits (FP.i2d b)) pb.1 (by omega)
  rw [show FP.Core.val64 (FP.dadd (FP.dmul (FP.i2d a) (4606056518893174784 : UInt64)) (FP.i2d b)) = _ from FP.Core.val64_dadd _ _]
  exact Int.lt_of_lt_of_le pb.2 g
theorem own_bit0 {S : Prop} [Decidable S] : (if S then (1 : Int32) else 0) = 0 ↔ ¬ S := by
  by_cases h : S
  · simp [h]
  · simp [h]
theorem own_ln2 {u : Int64} {S : Prop} [Decidable S] {p1 : Int32} {ln' : UInt64} (hp : 0 < p1.toInt) (h : own_lines u (if S then (1 : Int32) else 0) (0 : UInt64) p1 ln') : (¬ (S ∧ (¬ (u < (20000 : Int64)))) ∧ ln' = 0) ∨ ((S ∧ (¬ (u < (20000 : Int64)))) ∧ ln' = FP.i2d p1) := by
  have hp0 : ¬ p1 = 0 := fun z => by rw [z] at hp; exact absurd hp (by decide)
  unfold own_lines at h
  rw [own_bit0] at h
  rcases h with ⟨h, e⟩ | ⟨h1, h2, h | h⟩
  · left
    refine ⟨fun q => ?_, e⟩
    rcases h with h | h
    · exact h q.1
    · exact q.2 h
  · right
    exact ⟨⟨Decidable.byContradiction h1, h2⟩, by rw [h.2, own_add0 hp0]⟩
  · exact absurd h.1 own_pos0
theorem own_cnt2 {u : Int64} {S : Prop} [Decidable S] {p1 : Int32} {ln' : UInt64} (hp : 0 < p1.toInt) (h : own_lines u (if S then (1 : Int32) else 0) (0 : UInt64) p1 ln') : own_pos ln' ↔ (S ∧ (¬ (u < (20000 : Int64)))) := by
  rcases own_ln2 hp h with ⟨h1, rfl⟩ | ⟨h1, rfl⟩
  · exact ⟨fun q => absurd q own_pos0, fun q => absurd q h1⟩
  · exact ⟨fun _ => h1, fun _ => own_posInt hp⟩
theorem own_cnt3 {u u3 : Int64} {S S3 : Prop} [Decidable S] [Decidable S3] {p1 p3 : Int32} {ln2 ln3 : UInt64} (hp : 0 < p1.toInt) (hp3 : 0 < p3.toInt) (h : own_lines u (if S then (1 : Int32) else 0) (0 : UInt64) p1 ln2) (h3 : own_lines u3 (if S3 then (1 : Int32) else 0) ln2 p3 ln3) :
    own_pos ln3 ↔ ((S ∧ (¬ (u < (20000 : Int64)))) ∨ (S3 ∧ (¬ (u3 < (20000 : Int64))))) := by
  have hq : ¬ p3 = 0 := fun z => by rw [z] at hp3; exact absurd hp3 (by decide)
  have c2 := own_cnt2 hp h
  unfold own_lines at h3
  rw [own_bit0] at h3
  rcases h3 with ⟨h4, rfl⟩ | ⟨h1, h2, h4⟩
  · rw [c2]
    constructor
    · exact Or.inl
    · rintro (q | q)
      · exact q
      · rcases h4 with h4 | h4
        · exact absurd q.1 h4
        · exact absurd h4 q.2
  · refine ⟨fun _ => Or.inr ⟨Decidable.byContradiction h1, h2⟩, fun _ => ?_⟩
    rcases own_ln2 hp h with ⟨h5, rfl⟩ | ⟨h5, rfl⟩
    · rcases h4 with h4 | h4
      · rw [h4.2, own_add0 hq]; exact own_posInt hp3
      · exact absurd h4.1 own_pos0
    · rcases h4 with h4 | ⟨-, h4 | h4⟩
      · exact absurd (own_posInt hp) h4.1
      · rw [h4]; exact own_posInt hp3
      · rw [h4]; exact own_posSum hp hp3
theorem own_l1 (x : Int32) : 0 < ((x &&& (65535 : Int32)) + (1 : Int32)).toInt := by
  have e := c_mask x 65535 16 (by decide) (by decide)
  have l4 : ((2 ^ 16 : Nat) : Int) = 65536 := by decide
  rw [l4] at e
  have a := c_iadd (x &&& 65535) 1
  have r := rng32 ((x &&& 65535) + 1)
  have l1 : (1 : Int32).toInt = 1 := by decide
  omega
theorem dc_0 : decode prog_13_method_4_code 0 = .ok (.aload_n 0, 1) := by decide +kernel
theorem dc_1 : decode prog_13_method_4_code 1 = .ok (.getfield 31, 3) := by decide +kernel
theorem dc_4 : decode prog_13_method_4_code 4 = .ok (.dconst 0, 1) := by decide +kernel
theorem dc_5 : decode prog_13_method_4_code 5 = .ok (.dcmp .l, 1) := by decide +kernel
theorem dc_6 : decode prog_13_method_4_code 6 = .ok (.ifCond .le 7, 3) := by decide +kernel
theorem dc_9 : decode prog_13_method_4_code 9 = .ok (.iconst 1, 1) := by decide +kernel
theorem dc_10 : decode prog_13_method_4_code 10 = .ok (.goto 4, 3) := by decide +kernel
theorem dc_13 : decode prog_13_method_4_code 13 = .ok (.iconst 0, 1) := by decide +kernel
theorem dc_14 : decode prog_13_method_4_code 14 = .ok (.ireturn, 1) := by decide +kernel
theorem pnc : plainName "com/example/nimble_trace/nimbletrace/TextCost" = true := by first | (simp [plainName, overriddenIn]; done) | decide +kernel
theorem efc (m : MethodId) (r0 : Addr) : entryFrame m #[(.ref r0)] 1 = mkF m 0 #[.val (.ref r0)] [] := by first | (simp [entryFrame, mkF, argsToLocals, Value.category]; done) | rfl
def Qc (Z : State) (r0 : Addr) (ln : UInt64) (h0 : Heap) (n0 : Nat) (v : Option Value) (h : Heap) (L : List Loc) : Prop := v = some (.int (if (0 : Int32) < (cmpValue (FP.dcmp ln FP.dconst0) .l) then (1 : Int32) else 0)) ∧ Fr n0 L ∧ h = h0
set_option maxRecDepth 65536 in
set_option maxHeartbeats 40000000 in
theorem rmc (l : Launch) (Z : State) (a0 : Array Value) (hw : ∀ d ∈ tables_1, d.before a0 Z = true) (ws : List Jvm.Cond) (r0 : Addr) (ln : UInt64) (h0 : Heap) (n0 : Nat) (Z0 : n0 ≤ h0.size) (F_ln : Fld Z h0 r0 "com/example/nimble_trace/nimbletrace/TextCost" "lines" "D" (.double ln)) :
    MetFree l (⟨"com/example/nimble_trace/nimbletrace/TextCost", "counts", "()Z"⟩ : MethodName) (head1 (Jvm.Cond.code (⟨"com/example/nimble_trace/nimbletrace/TextCost", "counts", "()Z"⟩ : MethodName) prog_13_method_4_code 1 (some .boolean) :: ws) ({ frames := 0, cells := 0, slots := 0, locals := 0 } : Room)) (fun a U => a = #[(.ref r0)] ∧ Z.Warmed39 U.vm ∧ U.heap = h0) (fun _ _ _ _ _ => True) (fun _ U o U' => ∃ v L, o = .returned v ∧ Qc Z r0 ln h0 n0 v U'.heap L ∧ FrameEnd U o U' L ({ frames := 0, cells := 0, slots := 0, locals := 0 } : Room).cells ({ frames := 0, cells := 0, slots := 0, locals := 0 } : Room).slots) := by
  refine MetFree.of_bodySF (plainFor_of_name pnc) hisR ?_
  intro p e s m args below meth c s₁ Bd hml0 hP hK
  obtain ⟨rfl, hZ, hh⟩ := hP
  have hx := Bd.exec
  have hby := Bd.bytes
  have hml : c.maxLocals = 1 := hml0
  have hown : s.vm.findClass "com/example/nimble_trace/nimbletrace/TextCost" = some m.cls := findClass_of_methodNamed Bd.named
  have hnm := (name_of_methodNamed Bd.named Bd.method).1
  have X0 : Stand p l e ({ frames := 0, cells := 0, slots := 0, locals := 0 } : Room) s m #[(.ref r0)] below meth c s₁ [] 0 0 := Stand.of_body Bd
  have e0 : s₁.heap = h0 := by rw [← hh, Bd.state]; rfl
  have N0 := Fr.nil n0
  have K0 : Keep h0 h0 [] := Keep.refl h0 _
  refine own_in ?_
  refine own_go (B := s₁.setTop (mkF m 0 #[.val (.ref r0)] [])) (fun t k => castTop (efc m r0) k) ?_
  refine own_go (B := s₁.setTop (mkF m 1 #[.val (.ref r0)] [(.ref r0)])) (fun t k => ?_) ?_
  · show Steps p.tables e below (s₁.setTop (mkF m 0 #[.val (.ref r0)] [])) t
    refine XS.aloadN X0.here hx rfl (hb hby dc_0) rfl rfl ?_
    exact k
  obtain ⟨T1, X1, e1, st1⟩ := getF X0 hx hZ hown (host := "") (Or.inl (hw _ (List.mem_of_getElem? (i := 19) rfl))) Via.refl e0 F_ln (g := (mkF m 1 #[.val (.ref r0)] [(.ref r0)])) rfl rfl (hb hby dc_1)
  refine own_go st1 ?_
  show own_Fin p.tables e below (T1.setTop (mkF m 4 #[.val (.ref r0)] [(.double ln)])) _
  refine own_go (B := T1.setTop (mkF m 6 #[.val (.ref r0)] [(.int (cmpValue (FP.dcmp ln FP.dconst0) .l))])) (fun t k => ?_) ?_
  · show Steps p.tables e below (T1.setTop (mkF m 4 #[.val (.ref r0)] [(.double ln)])) t
    refine XS.dconst0 X1.here hx rfl (hb hby dc_4) rfl ?_
    refine XS.dcmpS X1.here hx rfl (hb hby dc_5) rfl rfl ?_
    exact k
  refine own_go (B := T1.setTop (mkF m 14 #[.val (.ref r0)] [(.int (if (0 : Int32) < (cmpValue (FP.dcmp ln FP.dconst0) .l) then (1 : Int32) else 0))])) (fun t k => ?_) ?_
  · skip
    show Steps p.tables e below (T1.setTop (mkF m 6 #[.val (.ref r0)] [(.int (cmpValue (FP.dcmp ln FP.dconst0) .l))])) t
    by_cases hd2 : (0 : Int32) < (cmpValue (FP.dcmp ln FP.dconst0) .l)
    · refine XS.ifNo X1.here hx rfl (hb hby dc_6) rfl ((if0 _ _).trans (tlt hd2).2.2.2) ?_
      show Steps p.tables e below (T1.setTop (mkF m 9 #[.val (.ref r0)] [])) t
      refine XS.iconst X1.here hx rfl (hb hby dc_9) ?_
      show Steps p.tables e below (T1.setTop (mkF m 10 #[.val (.ref r0)] [(.int (1 : Int32))])) t
      refine XS.goto X1.here hx rfl (pc0 := 10) (pc' := 14) rfl (hb hby dc_10) (by decide) (by decide) ?_
      show Steps p.tables e below (T1.setTop (mkF m 14 #[.val (.ref r0)] [(.int (1 : Int32))])) t
      exact (congrArg (fun z => Steps p.tables e below (T1.setTop (mkF m 14 #[.val (.ref r0)] [(.int z)])) t) (if_pos hd2)).mp k
    · refine XS.ifYes X1.here hx rfl (pc0 := 6) (pc' := 13) rfl (hb hby dc_6) rfl ((if0 _ _).trans (flt hd2).2.2.2) (by decide) (by decide) ?_
      show Steps p.tables e below (T1.setTop (mkF m 13 #[.val (.ref r0)] [])) t
      refine XS.iconst X1.here hx rfl (hb hby dc_13) ?_
      show Steps p.tables e below (T1.setTop (mkF m 14 #[.val (.ref r0)] [(.int (0 : Int32))])) t
      exact (congrArg (fun z => Steps p.tables e below (T1.setTop (mkF m 14 #[.val (.ref r0)] [(.int z)])) t) (if_neg hd2)).mp k
  obtain ⟨fs, hr, hrun, hended, hW, hsame⟩ := X1.leave (v := some (.int (if (0 : Int32) < (cmpValue (FP.dcmp ln FP.dconst0) .l) then (1 : Int32) else 0))) (fun h => by rw [Bd.returns] at h; cases h)
  refine ⟨_, _, ?_, hrun, hended, _, _, rfl, ?_, ⟨_, rfl⟩, hW, hsame.mono (by decide) (by decide)⟩
  · exact retOut X1 hx (t := .boolean) Bd.returns own_narB (Or.inl ⟨rfl, by simp, _, rfl⟩) (hb hby dc_14) hr
  · show Qc Z r0 ln h0 n0 _ T1.heap _
    rw [e1]
    exact ⟨rfl, N0, rfl⟩
theorem pn0 : plainName "com/example/nimble_trace/nimbletrace/TextCostCountsPinLaw" = true := by first | (simp [plainName, overriddenIn]; done) | decide +kernel
theorem pd0_0 : parseMethodDescriptor "(J)V" = some ⟨[.long], none⟩ := by decide +kernel
theorem pd0_1 : parseMethodDescriptor "()Z" = some ⟨[], some .boolean⟩ := by decide +kernel
theorem pd0_2 : parseMethodDescriptor "(IJZ)V" = some ⟨[.int, .long, .boolean], none⟩ := by decide +kernel
theorem ef0 (m : MethodId) (p0 : Int32) (p1 : Int32) (p2 : Int32) (q3 : Int64) (q4 : Int64) (q5 : Int64) : entryFrame m #[(.int p0), (.int p1), (.int p2), (.long q3), (.long q4), (.long q5)] maxLocals = mkF m 0 #[.val (.int p0), .val (.int p1), .val (.int p2), .val (.long q3), .second, .val (.long q4), .second, .val (.long q5), .second, .unset, .unset, .unset, .unset, .unset, .unset, .unset, .unset, .unset, .unset, .unset] [] := by first | (simp [entryFrame, mkF, argsToLocals, Value.category, maxLocals]; done) | rfl
def Q0 (Z : State) (p0 : Int32) (p1 : Int32) (p2 : Int32) (q3 : Int64) (q4 : Int64) (q5 : Int64) (h0 : Heap) (n0 : Nat) (v : Option Value) (h : Heap) (L : List Loc) : Prop := v = some (.int 1) ∧ Fr n0 L
set_option maxRecDepth 65536 in
set_option maxHeartbeats 40000000 in
theorem rm0 (l : Launch) (Z : State) (a0 : Array Value) (hw : ∀ d ∈ tables_1, d.before a0 Z = true) (ws : List Jvm.Cond) (p0 : Int32) (p1 : Int32) (p2 : Int32) (q3 : Int64) (q4 : Int64) (q5 : Int64) (h0 : Heap) (n0 : Nat) (Z0 : n0 ≤ h0.size) :
    MetFree l x (head1 (Jvm.Cond.code x code maxLocals ret :: ws) room_1) (fun a U => a = #[(.int p0), (.int p1), (.int p2), (.long q3), (.long q4), (.long q5)] ∧ Z.Warmed39 U.vm ∧ U.heap = h0) (fun _ _ _ _ _ => True) (fun _ U o U' => ∃ v L, o = .returned v ∧ Q0 Z p0 p1 p2 q3 q4 q5 h0 n0 v U'.heap L ∧ FrameEnd U o U' L room_1.cells room_1.slots) := by
  refine MetFree.of_bodySF (plainFor_of_name pn0) hisR ?_
  intro p e s m args below meth c s₁ Bd hml0 hP hK
  obtain ⟨rfl, hZ, hh⟩ := hP
  have hx := Bd.exec
  have hby := Bd.bytes
  have hml : c.maxLocals = 20 := hml0
  have hown : s.vm.findClass "com/example/nimble_trace/nimbletrace/TextCostCountsPinLaw" = some m.cls := findClass_of_methodNamed Bd.named
  have hnm := (name_of_methodNamed Bd.named Bd.method).1
  have X0 : Stand p l e room_1 s m #[(.int p0), (.int p1), (.int p2), (.long q3), (.long q4), (.long q5)] below meth c s₁ [] 0 0 := Stand.of_body Bd
  have e0 : s₁.heap = h0 := by rw [← hh, Bd.state]; rfl
  have N0 := Fr.nil n0
  have K0 : Keep h0 h0 [] := Keep.refl h0 _
  refine own_in ?_
  refine own_go (B := s₁.setTop (mkF m 0 #[.val (.int p0), .val (.int p1), .val (.int p2), .val (.long q3), .second, .val (.long q4), .second, .val (.long q5), .second, .unset, .unset, .unset, .unset, .unset, .unset, .unset, .unset, .unset, .unset, .unset] [])) (fun t k => castTop (ef0 m p0 p1 p2 q3 q4 q5) k) ?_
  obtain ⟨T1, h1, X1, e1, E1, A1, D1, -, st1⟩ := newO X0 hx hZ hown (hw _ (List.mem_of_getElem? (i := 0) rfl)) (hw _ (List.mem_of_getElem? (i := 1) rfl)) (hw _ (List.mem_of_getElem? (i := 2) rfl)) e0 (g := (mkF m 0 #[.val (.int p0), .val (.int p1), .val (.int p2), .val (.long q3), .second, .val (.long q4), .second, .val (.long q5), .second, .unset, .unset, .unset, .unset, .unset, .unset, .unset, .unset, .unset, .unset, .unset] [])) rfl (hb hby at_0) (by decide) (by decide)
  obtain ⟨b1, g1⟩ : ∃ z, z = h0.size := ⟨_, rfl⟩
  rw [← g1] at A1 D1 st1
  have g_b1 : n0 ≤ b1 := by rw [g1]; exact Z0
  have sz_b1 : h0.size ≤ b1 := by rw [g1]; exact K0.1
  have K1 : Keep h0 h1 [] := K0.ext E1
  have X1 : Stand p l e room_1 s m #[(.int p0), (.int p1), (.int p2), (.long q3), (.long q4), (.long q5)] below meth c T1 _ 1 5 := X1
  have F_lastNanosPerLine_b1 : Fld Z h1 b1 "com/example/nimble_trace/nimbletrace/TextCost" "lastNanosPerLine" "J" (.long (0 : Int64)) := D1 (Or.inl (hw _ (List.mem_of_getElem? (i := 11) rfl))) (ty := .long) (by decide)
  have F_leastNanos_b1 : Fld Z h1 b1 "com/example/nimble_trace/nimbletrace/TextCost" "leastNanos" "J" (.long (0 : Int64)) := D1 (Or.inr (hw _ (List.mem_of_getElem? (i := 13) rfl))) (ty := .long) (by decide)
  have F_lines_b1 : Fld Z h1 b1 "com/example/nimble_trace/nimbletrace/TextCost" "lines" "D" (.double (0 : UInt64)) := D1 (Or.inl (hw _ (List.mem_of_getElem? (i := 20) rfl))) (ty := .double) (by decide)
  have F_linesMade_b1 : Fld Z h1 b1 "com/example/nimble_trace/nimbletrace/TextCost" "linesMade" "J" (.long (0 : Int64)) := D1 (Or.inl (hw _ (List.mem_of_getElem? (i := 37) rfl))) (ty := .long) (by decide)
  have F_nanos_b1 : Fld Z h1 b1 "com/example/nimble_trace/nimbletrace/TextCost" "nanos" "D" (.double (0 : UInt64)) := D1 (Or.inl (hw _ (List.mem_of_getElem? (i := 40) rfl))) (ty := .double) (by decide)
  refine own_go st1 ?_
  show own_Fin p.tables e below (T1.setTop (mkF m 3 #[.val (.int p0), .val (.int p1), .val (.int p2), .val (.long q3), .second, .val (.long q4), .second, .val (.long q5), .second, .unset, .unset, .unset, .unset, .unset, .unset, .unset, .unset, .unset, .unset, .unset] [(.ref b1)])) _
  refine own_go (B := T1.setTop (mkF m 5 #[.val (.int p0), .val (.int p1), .val (.int p2), .val (.long q3), .second, .val (.long q4), .second, .val (.long q5), .second, .unset, .unset, .unset, .unset, .unset, .unset, .unset, .unset, .unset, .unset, .unset] [(.long q3), (.ref b1), (.ref b1)])) (fun t k => ?_) ?_
  · show Steps p.tables e below (T1.setTop (mkF m 3 #[.val (.int p0), .val (.int p1), .val (.int p2), .val (.long q3), .second, .val (.long q4), .second, .val (.long q5), .second, .unset, .unset, .unset, .unset, .unset, .unset, .unset, .unset, .unset, .unset, .unset] [(.ref b1)])) t
    refine XS.dup X1.here hx rfl (hb hby at_3) rfl rfl ?_
    refine XS.lloadN X1.here hx rfl (hb hby at_4) rfl ?_
    exact k
  obtain ⟨_, _, ⟨T2, L2, k2, n2⟩, -, X2, ⟨Lc2, hQ2, l2, y2, z2⟩, st2⟩ := X1.specialBack hx (y := (⟨"com/example/nimble_trace/nimbletrace/TextCost", "<init>", "(J)V"⟩ : MethodName)) rfl hown (mvT hZ (hw _ (List.mem_of_getElem? (i := 3) rfl))) (mvT hZ (hw _ (List.mem_of_getElem? (i := 4) rfl))) (mvT hZ (hw _ (List.mem_of_getElem? (i := 5) rfl))) (by decide) (backOf (W := 1) (rmi l Z a0 hw [] b1 q3  h1 n0 (Nat.le_trans Z0 K1.1) A1 g_b1 F_lastNanosPerLine_b1 F_leastNanos_b1 F_lines_b1 F_linesMade_b1 F_nanos_b1) hZ (hw _ (List.mem_of_getElem? (i := 5) rfl)) (hw _ (List.mem_of_getElem? (i := 2) rfl)) (by decide) (by decide)) (g := (mkF m 5 #[.val (.int p0), .val (.int p1), .val (.int p2), .val (.long q3), .second, .val (.long q4), .second, .val (.long q5), .second, .unset, .unset, .unset, .unset, .unset, .unset, .unset, .unset, .unset, .unset, .unset] [(.long q3), (.ref b1), (.ref b1)])) rfl (by rw [hml]; rfl) (Steps.refl _) (a := b1) (argsL := [(.long q3)]) (rest := [(.ref b1)]) (lenOf pd0_0 rfl) rfl (by show 2 * 0 + _ ≤ _; exact Nat.le_of_eq rfl) (hb hby at_5) (fun _ _ => ⟨rfl, e1, (by decide : 1 + 0 ≤ _), (by decide : 5 + 0 ≤ _)⟩)
  dsimp only [Pt.U, Pt.locs, Pt.cells, Pt.slots] at X2 l2 y2 z2 st2 hQ2
  subst y2 z2
  have X2 : Stand p l e room_1 s m #[(.int p0), (.int p1), (.int p2), (.long q3), (.long q4), (.long q5)] below meth c T2 _ 1 5 := X2
  obtain ⟨rfl, N2q, Kq2, f2_0, f2_1, f2_2, f2_3, f2_4⟩ := hQ2
  have N2 : Fr n0 L2 := by rw [l2]; exact Fr.app N0 N2q
  have K2 : Keep h0 T2.heap [] := K1.trans Kq2 (allS (Or.inr sz_b1) all0)
  refine own_go (fun _ k => st2.trans k) ?_
  show own_Fin p.tables e below (T2.setTop (mkF m 8 #[.val (.int p0), .val (.int p1), .val (.int p2), .val (.long q3), .second, .val (.long q4), .second, .val (.long q5), .second, .unset, .unset, .unset, .unset, .unset, .unset, .unset, .unset, .unset, .unset, .unset] [(.ref b1)])) _
  refine own_go (B := T2.setTop (mkF m 12 #[.val (.int p0), .val (.int p1), .val (.int p2), .val (.long q3), .second, .val (.long q4), .second, .val (.long q5), .second, .val (.ref b1), .unset, .unset, .unset, .unset, .unset, .unset, .unset, .unset, .unset, .unset] [(.ref b1)])) (fun t k => ?_) ?_
  · show Steps p.tables e below (T2.setTop (mkF m 8 #[.val (.int p0), .val (.int p1), .val (.int p2), .val (.long q3), .second, .val (.long q4), .second, .val (.long q5), .second, .unset, .unset, .unset, .unset, .unset, .unset, .unset, .unset, .unset, .unset, .unset] [(.ref b1)])) t
    refine XS.astore X2.here hx rfl (hb hby at_8) rfl rfl (l' := #[.val (.int p0), .val (.int p1), .val (.int p2), .val (.long q3), .second, .val (.long q4), .second, .val (.long q5), .second, .val (.ref b1), .unset, .unset, .unset, .unset, .unset, .unset, .unset, .unset, .unset, .unset]) rfl ?_
    refine XS.aload X2.here hx rfl (hb hby at_10) rfl rfl ?_
    exact k
  obtain ⟨cq3, kq3, q3a, q3b, q3c⟩ := isOf hZ rfl f2_0
  obtain ⟨_, _, ⟨T3, L3, k3, n3⟩, -, X3, ⟨Lc3, hQ3, l3, y3, z3⟩, st3⟩ := X2.virtualBack hx (y := (⟨"com/example/nimble_trace/nimbletrace/TextCost", "counts", "()Z"⟩ : MethodName)) (z := (⟨"com/example/nimble_trace/nimbletrace/TextCost", "counts", "()Z"⟩ : MethodName)) hown (mvT hZ (hw _ (List.mem_of_getElem? (i := 14) rfl))) (mvT hZ (hw _ (List.mem_of_getElem? (i := 15) rfl))) (notFace_of_selects (args := #[]) (mvT hZ (hw _ (List.mem_of_getElem? (i := 17) rfl)))) (mvT hZ (hw _ (List.mem_of_getElem? (i := 17) rfl))) (mvT hZ (hw _ (List.mem_of_getElem? (i := 16) rfl))) (by decide) (backOf (W := 0) (rmc l Z a0 hw [] b1 (0 : UInt64) T2.heap n0 (Nat.le_trans Z0 K2.1) f2_3) hZ (hw _ (List.mem_of_getElem? (i := 18) rfl)) (hw _ (List.mem_of_getElem? (i := 2) rfl)) (by decide) (by decide)) q3a q3c (g := (mkF m 12 #[.val (.int p0), .val (.int p1), .val (.int p2), .val (.long q3), .second, .val (.long q4), .second, .val (.long q5), .second, .val (.ref b1), .unset, .unset, .unset, .unset, .unset, .unset, .unset, .unset, .unset, .unset] [(.ref b1)])) rfl (by rw [hml]; rfl) (Steps.refl _) (argsL := []) (rest := []) (lenOf pd0_1 rfl) rfl (by show 2 * 0 + _ ≤ _; exact Nat.le_of_eq rfl) (hb hby at_12) (fun _ _ => ⟨rfl, rfl, (by decide : 1 + 0 ≤ _), (by decide : 5 + 0 ≤ _)⟩)
  dsimp only [Pt.U, Pt.locs, Pt.cells, Pt.slots] at X3 l3 y3 z3 st3 hQ3
  subst y3 z3
  have X3 : Stand p l e room_1 s m #[(.int p0), (.int p1), (.int p2), (.long q3), (.long q4), (.long q5)] below meth c T3 _ 1 5 := X3
  obtain ⟨rfl, N3q, e3⟩ := hQ3
  have N3 : Fr n0 L3 := by rw [l3]; exact Fr.app N2 N3q
  refine own_go (fun _ k => st3.trans k) ?_
  show own_Fin p.tables e below (T3.setTop (mkF m 15 #[.val (.int p0), .val (.int p1), .val (.int p2), .val (.long q3), .second, .val (.long q4), .second, .val (.long q5), .second, .val (.ref b1), .unset, .unset, .unset, .unset, .unset, .unset, .unset, .unset, .unset, .unset] [(.int (if (0 : Int32) < (cmpValue (FP.dcmp (0 : UInt64) FP.dconst0) .l) then (1 : Int32) else 0))])) _
  have hc4 : ¬ ((0 : Int32) < (cmpValue (FP.dcmp (0 : UInt64) FP.dconst0) .l)) := own_pos0
  refine own_go (B := T3.setTop (mkF m 31 #[.val (.int p0), .val (.int p1), .val (.int p2), .val (.long q3), .second, .val (.long q4), .second, .val (.long q5), .second, .val (.ref b1), .val (.int (1 : Int32)), .unset, .unset, .unset, .unset, .unset, .unset, .unset, .unset, .unset] [(.int ((p0 &&& (65535 : Int32)) + (1 : Int32)))])) (fun t k => ?_) ?_
  · show Steps p.tables e below (T3.setTop (mkF m 15 #[.val (.int p0), .val (.int p1), .val (.int p2), .val (.long q3), .second, .val (.long q4), .second, .val (.long q5), .second, .val (.ref b1), .unset, .unset, .unset, .unset, .unset, .unset, .unset, .unset, .unset, .unset] [(.int (if (0 : Int32) < (cmpValue (FP.dcmp (0 : UInt64) FP.dconst0) .l) then (1 : Int32) else 0))])) t
    refine XS.ifNo X3.here hx rfl (hb hby at_15) rfl (own_bneF hc4) ?_
    refine XS.iconst X3.here hx rfl (hb hby at_18) ?_
    refine XS.goto X3.here hx rfl (pc0 := 19) (pc' := 23) rfl (hb hby at_19) (by decide) (by decide) ?_
    refine XS.istore X3.here hx rfl (hb hby at_23) rfl (l' := #[.val (.int p0), .val (.int p1), .val (.int p2), .val (.long q3), .second, .val (.long q4), .second, .val (.long q5), .second, .val (.ref b1), .val (.int (1 : Int32)), .unset, .unset, .unset, .unset, .unset, .unset, .unset, .unset, .unset]) rfl ?_
    show Steps p.tables e below (T3.setTop (mkF m 25 #[.val (.int p0), .val (.int p1), .val (.int p2), .val (.long q3), .second, .val (.long q4), .second, .val (.long q5), .second, .val (.ref b1), .val (.int (1 : Int32)), .unset, .unset, .unset, .unset, .unset, .unset, .unset, .unset, .unset] [])) t
    refine XS.iloadN X3.here hx rfl (hb hby at_25) rfl ?_
    refine X3.ldcI hx hown (mvT hZ (hw _ (List.mem_of_getElem? (i := 21) rfl))) rfl (hb hby at_26) ?_
    refine XS.iand X3.here hx rfl (hb hby at_28) rfl ?_
    refine XS.iconst X3.here hx rfl (hb hby at_29) ?_
    show Steps p.tables e below (T3.setTop (mkF m 30 #[.val (.int p0), .val (.int p1), .val (.int p2), .val (.long q3), .second, .val (.long q4), .second, .val (.long q5), .second, .val (.ref b1), .val (.int (1 : Int32)), .unset, .unset, .unset, .unset, .unset, .unset, .unset, .unset, .unset] [(.int (1 : Int32)), (.int (p0 &&& (65535 : Int32)))])) t
    refine XS.iadd X3.here hx rfl (hb hby at_30) rfl ?_
    exact k
  obtain ⟨l1, e_l1⟩ : ∃ z, z = ((p0 &&& (65535 : Int32)) + (1 : Int32)) := ⟨_, rfl⟩
  have hp_l1 : 0 < l1.toInt := by rw [e_l1]; exact own_l1 _
  have h_l1 : ¬ l1 = 0 := fun z => by rw [z] at hp_l1; exact absurd hp_l1 (by decide)
  refine own_go (B := T3.setTop (mkF m 31 #[.val (.int p0), .val (.int p1), .val (.int p2), .val (.long q3), .second, .val (.long q4), .second, .val (.long q5), .second, .val (.ref b1), .val (.int (1 : Int32)), .unset, .unset, .unset, .unset, .unset, .unset, .unset, .unset, .unset] [(.int l1)])) (fun t k => (congrArg (fun z => Steps p.tables e below (T3.setTop (mkF m 31 #[.val (.int p0), .val (.int p1), .val (.int p2), .val (.long q3), .second, .val (.long q4), .second, .val (.long q5), .second, .val (.ref b1), .val (.int (1 : Int32)), .unset, .unset, .unset, .unset, .unset, .unset, .unset, .unset, .unset] [(.int z)])) t) (e_l1.symm)).mpr k) ?_
  refine own_go (B := T3.setTop (mkF m 39 #[.val (.int p0), .val (.int p1), .val (.int p2), .val (.long q3), .second, .val (.long q4), .second, .val (.long q5), .second, .val (.ref b1), .val (.int (1 : Int32)), .val (.int l1), .unset, .unset, .unset, .unset, .unset, .unset, .unset, .unset] [(.int (((p0.toUInt32 >>> ((16 : Int32) &&& 31).toUInt32).toInt32) &&& (1 : Int32)))])) (fun t k => ?_) ?_
  · show Steps p.tables e below (T3.setTop (mkF m 31 #[.val (.int p0), .val (.int p1), .val (.int p2), .val (.long q3), .second, .val (.long q4), .second, .val (.long q5), .second, .val (.ref b1), .val (.int (1 : Int32)), .unset, .unset, .unset, .unset, .unset, .unset, .unset, .unset, .unset] [(.int l1)])) t
    refine XS.istore X3.here hx rfl (hb hby at_31) rfl (l' := #[.val (.int p0), .val (.int p1), .val (.int p2), .val (.long q3), .second, .val (.long q4), .second, .val (.long q5), .second, .val (.ref b1), .val (.int (1 : Int32)), .val (.int l1), .unset, .unset, .unset, .unset, .unset, .unset, .unset, .unset]) rfl ?_
    refine XS.iloadN X3.here hx rfl (hb hby at_33) rfl ?_
    refine XS.bipush X3.here hx rfl (hb hby at_34) ?_
    refine XS.iushr X3.here hx rfl (hb hby at_36) rfl ?_
    show Steps p.tables e below (T3.setTop (mkF m 37 #[.val (.int p0), .val (.int p1), .val (.int p2), .val (.long q3), .second, .val (.long q4), .second, .val (.long q5), .second, .val (.ref b1), .val (.int (1 : Int32)), .val (.int l1), .unset, .unset, .unset, .unset, .unset, .unset, .unset, .unset] [(.int ((p0.toUInt32 >>> ((16 : Int32) &&& 31).toUInt32).toInt32))])) t
    refine XS.iconst X3.here hx rfl (hb hby at_37) ?_
    refine XS.iand X3.here hx rfl (hb hby at_38) rfl ?_
    exact k
  refine own_go (B := T3.setTop (mkF m 47 #[.val (.int p0), .val (.int p1), .val (.int p2), .val (.long q3), .second, .val (.long q4), .second, .val (.long q5), .second, .val (.ref b1), .val (.int (1 : Int32)), .val (.int l1), .unset, .unset, .unset, .unset, .unset, .unset, .unset, .unset] [(.int (if ¬ ((((p0.toUInt32 >>> ((16 : Int32) &&& 31).toUInt32).toInt32) &&& (1 : Int32)) = (0 : Int32)) then (1 : Int32) else 0))])) (fun t k => ?_) ?_
  · skip
    show Steps p.tables e below (T3.setTop (mkF m 39 #[.val (.int p0), .val (.int p1), .val (.int p2), .val (.long q3), .second, .val (.long q4), .second, .val (.long q5), .second, .val (.ref b1), .val (.int (1 : Int32)), .val (.int l1), .unset, .unset, .unset, .unset, .unset, .unset, .unset, .unset] [(.int (((p0.toUInt32 >>> ((16 : Int32) &&& 31).toUInt32).toInt32) &&& (1 : Int32)))])) t
    by_cases hd5 : (((p0.toUInt32 >>> ((16 : Int32) &&& 31).toUInt32).toInt32) &&& (1 : Int32)) = (0 : Int32)
    · refine XS.ifYes X3.here hx rfl (pc0 := 39) (pc' := 46) rfl (hb hby at_39) rfl ((if0 _ _).trans (teq hd5).1) (by decide) (by decide) ?_
      show Steps p.tables e below (T3.setTop (mkF m 46 #[.val (.int p0), .val (.int p1), .val (.int p2), .val (.long q3), .second, .val (.long q4), .second, .val (.long q5), .second, .val (.ref b1), .val (.int (1 : Int32)), .val (.int l1), .unset, .unset, .unset, .unset, .unset, .unset, .unset, .unset] [])) t
      refine XS.iconst X3.here hx rfl (hb hby at_46) ?_
      show Steps p.tables e below (T3.setTop (mkF m 47 #[.val (.int p0), .val (.int p1), .val (.int p2), .val (.long q3), .second, .val (.long q4), .second, .val (.long q5), .second, .val (.ref b1), .val (.int (1 : Int32)), .val (.int l1), .unset, .unset, .unset, .unset, .unset, .unset, .unset, .unset] [(.int (0 : Int32))])) t
      exact (congrArg (fun z => Steps p.tables e below (T3.setTop (mkF m 47 #[.val (.int p0), .val (.int p1), .val (.int p2), .val (.long q3), .second, .val (.long q4), .second, .val (.long q5), .second, .val (.ref b1), .val (.int (1 : Int32)), .val (.int l1), .unset, .unset, .unset, .unset, .unset, .unset, .unset, .unset] [(.int z)])) t) (if_neg (fun q => q hd5))).mp k
    · refine XS.ifNo X3.here hx rfl (hb hby at_39) rfl ((if0 _ _).trans (feq hd5).1) ?_
      show Steps p.tables e below (T3.setTop (mkF m 42 #[.val (.int p0), .val (.int p1), .val (.int p2), .val (.long q3), .second, .val (.long q4), .second, .val (.long q5), .second, .val (.ref b1), .val (.int (1 : Int32)), .val (.int l1), .unset, .unset, .unset, .unset, .unset, .unset, .unset, .unset] [])) t
      refine XS.iconst X3.here hx rfl (hb hby at_42) ?_
      show Steps p.tables e below (T3.setTop (mkF m 43 #[.val (.int p0), .val (.int p1), .val (.int p2), .val (.long q3), .second, .val (.long q4), .second, .val (.long q5), .second, .val (.ref b1), .val (.int (1 : Int32)), .val (.int l1), .unset, .unset, .unset, .unset, .unset, .unset, .unset, .unset] [(.int (1 : Int32))])) t
      refine XS.goto X3.here hx rfl (pc0 := 43) (pc' := 47) rfl (hb hby at_43) (by decide) (by decide) ?_
      show Steps p.tables e below (T3.setTop (mkF m 47 #[.val (.int p0), .val (.int p1), .val (.int p2), .val (.long q3), .second, .val (.long q4), .second, .val (.long q5), .second, .val (.ref b1), .val (.int (1 : Int32)), .val (.int l1), .unset, .unset, .unset, .unset, .unset, .unset, .unset, .unset] [(.int (1 : Int32))])) t
      exact (congrArg (fun z => Steps p.tables e below (T3.setTop (mkF m 47 #[.val (.int p0), .val (.int p1), .val (.int p2), .val (.long q3), .second, .val (.long q4), .second, .val (.long q5), .second, .val (.ref b1), .val (.int (1 : Int32)), .val (.int l1), .unset, .unset, .unset, .unset, .unset, .unset, .unset, .unset] [(.int z)])) t) (if_pos hd5)).mp k
  refine own_go (B := T3.setTop (mkF m 55 #[.val (.int p0), .val (.int p1), .val (.int p2), .val (.long q3), .second, .val (.long q4), .second, .val (.long q5), .second, .val (.ref b1), .val (.int (1 : Int32)), .val (.int l1), .val (.int (if ¬ ((((p0.toUInt32 >>> ((16 : Int32) &&& 31).toUInt32).toInt32) &&& (1 : Int32)) = (0 : Int32)) then (1 : Int32) else 0)), .unset, .unset, .unset, .unset, .unset, .unset, .unset] [(.int ((p1 &&& (65535 : Int32)) + (1 : Int32)))])) (fun t k => ?_) ?_
  · show Steps p.tables e below (T3.setTop (mkF m 47 #[.val (.int p0), .val (.int p1), .val (.int p2), .val (.long q3), .second, .val (.long q4), .second, .val (.long q5), .second, .val (.ref b1), .val (.int (1 : Int32)), .val (.int l1), .unset, .unset, .unset, .unset, .unset, .unset, .unset, .unset] [(.int (if ¬ ((((p0.toUInt32 >>> ((16 : Int32) &&& 31).toUInt32).toInt32) &&& (1 : Int32)) = (0 : Int32)) then (1 : Int32) else 0))])) t
    refine XS.istore X3.here hx rfl (hb hby at_47) rfl (l' := #[.val (.int p0), .val (.int p1), .val (.int p2), .val (.long q3), .second, .val (.long q4), .second, .val (.long q5), .second, .val (.ref b1), .val (.int (1 : Int32)), .val (.int l1), .val (.int (if ¬ ((((p0.toUInt32 >>> ((16 : Int32) &&& 31).toUInt32).toInt32) &&& (1 : Int32)) = (0 : Int32)) then (1 : Int32) else 0)), .unset, .unset, .unset, .unset, .unset, .unset, .unset]) rfl ?_
    refine XS.iloadN X3.here hx rfl (hb hby at_49) rfl ?_
    refine X3.ldcI hx hown (mvT hZ (hw _ (List.mem_of_getElem? (i := 21) rfl))) rfl (hb hby at_50) ?_
    refine XS.iand X3.here hx rfl (hb hby at_52) rfl ?_
    show Steps p.tables e below (T3.setTop (mkF m 53 #[.val (.int p0), .val (.int p1), .val (.int p2), .val (.long q3), .second, .val (.long q4), .second, .val (.long q5), .second, .val (.ref b1), .val (.int (1 : Int32)), .val (.int l1), .val (.int (if ¬ ((((p0.toUInt32 >>> ((16 : Int32) &&& 31).toUInt32).toInt32) &&& (1 : Int32)) = (0 : Int32)) then (1 : Int32) else 0)), .unset, .unset, .unset, .unset, .unset, .unset, .unset] [(.int (p1 &&& (65535 : Int32)))])) t
    refine XS.iconst X3.here hx rfl (hb hby at_53) ?_
    refine XS.iadd X3.here hx rfl (hb hby at_54) rfl ?_
    exact k
  obtain ⟨l2, e_l2⟩ : ∃ z, z = ((p1 &&& (65535 : Int32)) + (1 : Int32)) := ⟨_, rfl⟩
  have hp_l2 : 0 < l2.toInt := by rw [e_l2]; exact own_l1 _
  have h_l2 : ¬ l2 = 0 := fun z => by rw [z] at hp_l2; exact absurd hp_l2 (by decide)
  refine own_go (B := T3.setTop (mkF m 55 #[.val (.int p0), .val (.int p1), .val (.int p2), .val (.long q3), .second, .val (.long q4), .second, .val (.long q5), .second, .val (.ref b1), .val (.int (1 : Int32)), .val (.int l1), .val (.int (if ¬ ((((p0.toUInt32 >>> ((16 : Int32) &&& 31).toUInt32).toInt32) &&& (1 : Int32)) = (0 : Int32)) then (1 : Int32) else 0)), .unset, .unset, .unset, .unset, .unset, .unset, .unset] [(.int l2)])) (fun t k => (congrArg (fun z => Steps p.tables e below (T3.setTop (mkF m 55 #[.val (.int p0), .val (.int p1), .val (.int p2), .val (.long q3), .second, .val (.long q4), .second, .val (.long q5), .second, .val (.ref b1), .val (.int (1 : Int32)), .val (.int l1), .val (.int (if ¬ ((((p0.toUInt32 >>> ((16 : Int32) &&& 31).toUInt32).toInt32) &&& (1 : Int32)) = (0 : Int32)) then (1 : Int32) else 0)), .unset, .unset, .unset, .unset, .unset, .unset, .unset] [(.int z)])) t) (e_l2.symm)).mpr k) ?_
  refine own_go (B := T3.setTop (mkF m 63 #[.val (.int p0), .val (.int p1), .val (.int p2), .val (.long q3), .second, .val (.long q4), .second, .val (.long q5), .second, .val (.ref b1), .val (.int (1 : Int32)), .val (.int l1), .val (.int (if ¬ ((((p0.toUInt32 >>> ((16 : Int32) &&& 31).toUInt32).toInt32) &&& (1 : Int32)) = (0 : Int32)) then (1 : Int32) else 0)), .val (.int l2), .unset, .unset, .unset, .unset, .unset, .unset] [(.int (((p1.toUInt32 >>> ((16 : Int32) &&& 31).toUInt32).toInt32) &&& (1 : Int32)))])) (fun t k => ?_) ?_
  · show Steps p.tables e below (T3.setTop (mkF m 55 #[.val (.int p0), .val (.int p1), .val (.int p2), .val (.long q3), .second, .val (.long q4), .second, .val (.long q5), .second, .val (.ref b1), .val (.int (1 : Int32)), .val (.int l1), .val (.int (if ¬ ((((p0.toUInt32 >>> ((16 : Int32) &&& 31).toUInt32).toInt32) &&& (1 : Int32)) = (0 : Int32)) then (1 : Int32) else 0)), .unset, .unset, .unset, .unset, .unset, .unset, .unset] [(.int l2)])) t
    refine XS.istore X3.here hx rfl (hb hby at_55) rfl (l' := #[.val (.int p0), .val (.int p1), .val (.int p2), .val (.long q3), .second, .val (.long q4), .second, .val (.long q5), .second, .val (.ref b1), .val (.int (1 : Int32)), .val (.int l1), .val (.int (if ¬ ((((p0.toUInt32 >>> ((16 : Int32) &&& 31).toUInt32).toInt32) &&& (1 : Int32)) = (0 : Int32)) then (1 : Int32) else 0)), .val (.int l2), .unset, .unset, .unset, .unset, .unset, .unset]) rfl ?_
    refine XS.iloadN X3.here hx rfl (hb hby at_57) rfl ?_
    refine XS.bipush X3.here hx rfl (hb hby at_58) ?_
    refine XS.iushr X3.here hx rfl (hb hby at_60) rfl ?_
    show Steps p.tables e below (T3.setTop (mkF m 61 #[.val (.int p0), .val (.int p1), .val (.int p2), .val (.long q3), .second, .val (.long q4), .second, .val (.long q5), .second, .val (.ref b1), .val (.int (1 : Int32)), .val (.int l1), .val (.int (if ¬ ((((p0.toUInt32 >>> ((16 : Int32) &&& 31).toUInt32).toInt32) &&& (1 : Int32)) = (0 : Int32)) then (1 : Int32) else 0)), .val (.int l2), .unset, .unset, .unset, .unset, .unset, .unset] [(.int ((p1.toUInt32 >>> ((16 : Int32) &&& 31).toUInt32).toInt32))])) t
    refine XS.iconst X3.here hx rfl (hb hby at_61) ?_
    refine XS.iand X3.here hx rfl (hb hby at_62) rfl ?_
    exact k
  refine own_go (B := T3.setTop (mkF m 71 #[.val (.int p0), .val (.int p1), .val (.int p2), .val (.long q3), .second, .val (.long q4), .second, .val (.long q5), .second, .val (.ref b1), .val (.int (1 : Int32)), .val (.int l1), .val (.int (if ¬ ((((p0.toUInt32 >>> ((16 : Int32) &&& 31).toUInt32).toInt32) &&& (1 : Int32)) = (0 : Int32)) then (1 : Int32) else 0)), .val (.int l2), .unset, .unset, .unset, .unset, .unset, .unset] [(.int (if ¬ ((((p1.toUInt32 >>> ((16 : Int32) &&& 31).toUInt32).toInt32) &&& (1 : Int32)) = (0 : Int32)) then (1 : Int32) else 0))])) (fun t k => ?_) ?_
  · skip
    show Steps p.tables e below (T3.setTop (mkF m 63 #[.val (.int p0), .val (.int p1), .val (.int p2), .val (.long q3), .second, .val (.long q4), .second, .val (.long q5), .second, .val (.ref b1), .val (.int (1 : Int32)), .val (.int l1), .val (.int (if ¬ ((((p0.toUInt32 >>> ((16 : Int32) &&& 31).toUInt32).toInt32) &&& (1 : Int32)) = (0 : Int32)) then (1 : Int32) else 0)), .val (.int l2), .unset, .unset, .unset, .unset, .unset, .unset] [(.int (((p1.toUInt32 >>> ((16 : Int32) &&& 31).toUInt32).toInt32) &&& (1 : Int32)))])) t
    by_cases hd6 : (((p1.toUInt32 >>> ((16 : Int32) &&& 31).toUInt32).toInt32) &&& (1 : Int32)) = (0 : Int32)
    · refine XS.ifYes X3.here hx rfl (pc0 := 63) (pc' := 70) rfl (hb hby at_63) rfl ((if0 _ _).trans (teq hd6).1) (by decide) (by decide) ?_
      show Steps p.tables e below (T3.setTop (mkF m 70 #[.val (.int p0), .val (.int p1), .val (.int p2), .val (.long q3), .second, .val (.long q4), .second, .val (.long q5), .second, .val (.ref b1), .val (.int (1 : Int32)), .val (.int l1), .val (.int (if ¬ ((((p0.toUInt32 >>> ((16 : Int32) &&& 31).toUInt32).toInt32) &&& (1 : Int32)) = (0 : Int32)) then (1 : Int32) else 0)), .val (.int l2), .unset, .unset, .unset, .unset, .unset, .unset] [])) t
      refine XS.iconst X3.here hx rfl (hb hby at_70) ?_
      show Steps p.tables e below (T3.setTop (mkF m 71 #[.val (.int p0), .val (.int p1), .val (.int p2), .val (.long q3), .second, .val (.long q4), .second, .val (.long q5), .second, .val (.ref b1), .val (.int (1 : Int32)), .val (.int l1), .val (.int (if ¬ ((((p0.toUInt32 >>> ((16 : Int32) &&& 31).toUInt32).toInt32) &&& (1 : Int32)) = (0 : Int32)) then (1 : Int32) else 0)), .val (.int l2), .unset, .unset, .unset, .unset, .unset, .unset] [(.int (0 : Int32))])) t
      exact (congrArg (fun z => Steps p.tables e below (T3.setTop (mkF m 71 #[.val (.int p0), .val (.int p1), .val (.int p2), .val (.long q3), .second, .val (.long q4), .second, .val (.long q5), .second, .val (.ref b1), .val (.int (1 : Int32)), .val (.int l1), .val (.int (if ¬ ((((p0.toUInt32 >>> ((16 : Int32) &&& 31).toUInt32).toInt32) &&& (1 : Int32)) = (0 : Int32)) then (1 : Int32) else 0)), .val (.int l2), .unset, .unset, .unset, .unset, .unset, .unset] [(.int z)])) t) (if_neg (fun q => q hd6))).mp k
    · refine XS.ifNo X3.here hx rfl (hb hby at_63) rfl ((if0 _ _).trans (feq hd6).1) ?_
      show Steps p.tables e below (T3.setTop (mkF m 66 #[.val (.int p0), .val (.int p1), .val (.int p2), .val (.long q3), .second, .val (.long q4), .second, .val (.long q5), .second, .val (.ref b1), .val (.int (1 : Int32)), .val (.int l1), .val (.int (if ¬ ((((p0.toUInt32 >>> ((16 : Int32) &&& 31).toUInt32).toInt32) &&& (1 : Int32)) = (0 : Int32)) then (1 : Int32) else 0)), .val (.int l2), .unset, .unset, .unset, .unset, .unset, .unset] [])) t
      refine XS.iconst X3.here hx rfl (hb hby at_66) ?_
      show Steps p.tables e below (T3.setTop (mkF m 67 #[.val (.int p0), .val (.int p1), .val (.int p2), .val (.long q3), .second, .val (.long q4), .second, .val (.long q5), .second, .val (.ref b1), .val (.int (1 : Int32)), .val (.int l1), .val (.int (if ¬ ((((p0.toUInt32 >>> ((16 : Int32) &&& 31).toUInt32).toInt32) &&& (1 : Int32)) = (0 : Int32)) then (1 : Int32) else 0)), .val (.int l2), .unset, .unset, .unset, .unset, .unset, .unset] [(.int (1 : Int32))])) t
      refine XS.goto X3.here hx rfl (pc0 := 67) (pc' := 71) rfl (hb hby at_67) (by decide) (by decide) ?_
      show Steps p.tables e below (T3.setTop (mkF m 71 #[.val (.int p0), .val (.int p1), .val (.int p2), .val (.long q3), .second, .val (.long q4), .second, .val (.long q5), .second, .val (.ref b1), .val (.int (1 : Int32)), .val (.int l1), .val (.int (if ¬ ((((p0.toUInt32 >>> ((16 : Int32) &&& 31).toUInt32).toInt32) &&& (1 : Int32)) = (0 : Int32)) then (1 : Int32) else 0)), .val (.int l2), .unset, .unset, .unset, .unset, .unset, .unset] [(.int (1 : Int32))])) t
      exact (congrArg (fun z => Steps p.tables e below (T3.setTop (mkF m 71 #[.val (.int p0), .val (.int p1), .val (.int p2), .val (.long q3), .second, .val (.long q4), .second, .val (.long q5), .second, .val (.ref b1), .val (.int (1 : Int32)), .val (.int l1), .val (.int (if ¬ ((((p0.toUInt32 >>> ((16 : Int32) &&& 31).toUInt32).toInt32) &&& (1 : Int32)) = (0 : Int32)) then (1 : Int32) else 0)), .val (.int l2), .unset, .unset, .unset, .unset, .unset, .unset] [(.int z)])) t) (if_pos hd6)).mp k
  refine own_go (B := T3.setTop (mkF m 79 #[.val (.int p0), .val (.int p1), .val (.int p2), .val (.long q3), .second, .val (.long q4), .second, .val (.long q5), .second, .val (.ref b1), .val (.int (1 : Int32)), .val (.int l1), .val (.int (if ¬ ((((p0.toUInt32 >>> ((16 : Int32) &&& 31).toUInt32).toInt32) &&& (1 : Int32)) = (0 : Int32)) then (1 : Int32) else 0)), .val (.int l2), .val (.int (if ¬ ((((p1.toUInt32 >>> ((16 : Int32) &&& 31).toUInt32).toInt32) &&& (1 : Int32)) = (0 : Int32)) then (1 : Int32) else 0)), .unset, .unset, .unset, .unset, .unset] [(.int ((p2 &&& (65535 : Int32)) + (1 : Int32)))])) (fun t k => ?_) ?_
  · show Steps p.tables e below (T3.setTop (mkF m 71 #[.val (.int p0), .val (.int p1), .val (.int p2), .val (.long q3), .second, .val (.long q4), .second, .val (.long q5), .second, .val (.ref b1), .val (.int (1 : Int32)), .val (.int l1), .val (.int (if ¬ ((((p0.toUInt32 >>> ((16 : Int32) &&& 31).toUInt32).toInt32) &&& (1 : Int32)) = (0 : Int32)) then (1 : Int32) else 0)), .val (.int l2), .unset, .unset, .unset, .unset, .unset, .unset] [(.int (if ¬ ((((p1.toUInt32 >>> ((16 : Int32) &&& 31).toUInt32).toInt32) &&& (1 : Int32)) = (0 : Int32)) then (1 : Int32) else 0))])) t
    refine XS.istore X3.here hx rfl (hb hby at_71) rfl (l' := #[.val (.int p0), .val (.int p1), .val (.int p2), .val (.long q3), .second, .val (.long q4), .second, .val (.long q5), .second, .val (.ref b1), .val (.int (1 : Int32)), .val (.int l1), .val (.int (if ¬ ((((p0.toUInt32 >>> ((16 : Int32) &&& 31).toUInt32).toInt32) &&& (1 : Int32)) = (0 : Int32)) then (1 : Int32) else 0)), .val (.int l2), .val (.int (if ¬ ((((p1.toUInt32 >>> ((16 : Int32) &&& 31).toUInt32).toInt32) &&& (1 : Int32)) = (0 : Int32)) then (1 : Int32) else 0)), .unset, .unset, .unset, .unset, .unset]) rfl ?_
    refine XS.iloadN X3.here hx rfl (hb hby at_73) rfl ?_
    refine X3.ldcI hx hown (mvT hZ (hw _ (List.mem_of_getElem? (i := 21) rfl))) rfl (hb hby at_74) ?_
    refine XS.iand X3.here hx rfl (hb hby at_76) rfl ?_
    show Steps p.tables e below (T3.setTop (mkF m 77 #[.val (.int p0), .val (.int p1), .val (.int p2), .val (.long q3), .second, .val (.long q4), .second, .val (.long q5), .second, .val (.ref b1), .val (.int (1 : Int32)), .val (.int l1), .val (.int (if ¬ ((((p0.toUInt32 >>> ((16 : Int32) &&& 31).toUInt32).toInt32) &&& (1 : Int32)) = (0 : Int32)) then (1 : Int32) else 0)), .val (.int l2), .val (.int (if ¬ ((((p1.toUInt32 >>> ((16 : Int32) &&& 31).toUInt32).toInt32) &&& (1 : Int32)) = (0 : Int32)) then (1 : Int32) else 0)), .unset, .unset, .unset, .unset, .unset] [(.int (p2 &&& (65535 : Int32)))])) t
    refine XS.iconst X3.here hx rfl (hb hby at_77) ?_
    refine XS.iadd X3.here hx rfl (hb hby at_78) rfl ?_
    exact k
  obtain ⟨l3, e_l3⟩ : ∃ z, z = ((p2 &&& (65535 : Int32)) + (1 : Int32)) := ⟨_, rfl⟩
  have hp_l3 : 0 < l3.toInt := by rw [e_l3]; exact own_l1 _
  have h_l3 : ¬ l3 = 0 := fun z => by rw [z] at hp_l3; exact absurd hp_l3 (by decide)
  refine own_go (B := T3.setTop (mkF m 79 #[.val (.int p0), .val (.int p1), .val (.int p2), .val (.long q3), .second, .val (.long q4), .second, .val (.long q5), .second, .val (.ref b1), .val (.int (1 : Int32)), .val (.int l1), .val (.int (if ¬ ((((p0.toUInt32 >>> ((16 : Int32) &&& 31).toUInt32).toInt32) &&& (1 : Int32)) = (0 : Int32)) then (1 : Int32) else 0)), .val (.int l2), .val (.int (if ¬ ((((p1.toUInt32 >>> ((16 : Int32) &&& 31).toUInt32).toInt32) &&& (1 : Int32)) = (0 : Int32)) then (1 : Int32) else 0)), .unset, .unset, .unset, .unset, .unset] [(.int l3)])) (fun t k => (congrArg (fun z => Steps p.tables e below (T3.setTop (mkF m 79 #[.val (.int p0), .val (.int p1), .val (.int p2), .val (.long q3), .second, .val (.long q4), .second, .val (.long q5), .second, .val (.ref b1), .val (.int (1 : Int32)), .val (.int l1), .val (.int (if ¬ ((((p0.toUInt32 >>> ((16 : Int32) &&& 31).toUInt32).toInt32) &&& (1 : Int32)) = (0 : Int32)) then (1 : Int32) else 0)), .val (.int l2), .val (.int (if ¬ ((((p1.toUInt32 >>> ((16 : Int32) &&& 31).toUInt32).toInt32) &&& (1 : Int32)) = (0 : Int32)) then (1 : Int32) else 0)), .unset, .unset, .unset, .unset, .unset] [(.int z)])) t) (e_l3.symm)).mpr k) ?_
  refine own_go (B := T3.setTop (mkF m 87 #[.val (.int p0), .val (.int p1), .val (.int p2), .val (.long q3), .second, .val (.long q4), .second, .val (.long q5), .second, .val (.ref b1), .val (.int (1 : Int32)), .val (.int l1), .val (.int (if ¬ ((((p0.toUInt32 >>> ((16 : Int32) &&& 31).toUInt32).toInt32) &&& (1 : Int32)) = (0 : Int32)) then (1 : Int32) else 0)), .val (.int l2), .val (.int (if ¬ ((((p1.toUInt32 >>> ((16 : Int32) &&& 31).toUInt32).toInt32) &&& (1 : Int32)) = (0 : Int32)) then (1 : Int32) else 0)), .val (.int l3), .unset, .unset, .unset, .unset] [(.int (((p2.toUInt32 >>> ((16 : Int32) &&& 31).toUInt32).toInt32) &&& (1 : Int32)))])) (fun t k => ?_) ?_
  · show Steps p.tables e below (T3.setTop (mkF m 79 #[.val (.int p0), .val (.int p1), .val (.int p2), .val (.long q3), .second, .val (.long q4), .second, .val (.long q5), .second, .val (.ref b1), .val (.int (1 : Int32)), .val (.int l1), .val (.int (if ¬ ((((p0.toUInt32 >>> ((16 : Int32) &&& 31).toUInt32).toInt32) &&& (1 : Int32)) = (0 : Int32)) then (1 : Int32) else 0)), .val (.int l2), .val (.int (if ¬ ((((p1.toUInt32 >>> ((16 : Int32) &&& 31).toUInt32).toInt32) &&& (1 : Int32)) = (0 : Int32)) then (1 : Int32) else 0)), .unset, .unset, .unset, .unset, .unset] [(.int l3)])) t
    refine XS.istore X3.here hx rfl (hb hby at_79) rfl (l' := #[.val (.int p0), .val (.int p1), .val (.int p2), .val (.long q3), .second, .val (.long q4), .second, .val (.long q5), .second, .val (.ref b1), .val (.int (1 : Int32)), .val (.int l1), .val (.int (if ¬ ((((p0.toUInt32 >>> ((16 : Int32) &&& 31).toUInt32).toInt32) &&& (1 : Int32)) = (0 : Int32)) then (1 : Int32) else 0)), .val (.int l2), .val (.int (if ¬ ((((p1.toUInt32 >>> ((16 : Int32) &&& 31).toUInt32).toInt32) &&& (1 : Int32)) = (0 : Int32)) then (1 : Int32) else 0)), .val (.int l3), .unset, .unset, .unset, .unset]) rfl ?_
    refine XS.iloadN X3.here hx rfl (hb hby at_81) rfl ?_
    refine XS.bipush X3.here hx rfl (hb hby at_82) ?_
    refine XS.iushr X3.here hx rfl (hb hby at_84) rfl ?_
    show Steps p.tables e below (T3.setTop (mkF m 85 #[.val (.int p0), .val (.int p1), .val (.int p2), .val (.long q3), .second, .val (.long q4), .second, .val (.long q5), .second, .val (.ref b1), .val (.int (1 : Int32)), .val (.int l1), .val (.int (if ¬ ((((p0.toUInt32 >>> ((16 : Int32) &&& 31).toUInt32).toInt32) &&& (1 : Int32)) = (0 : Int32)) then (1 : Int32) else 0)), .val (.int l2), .val (.int (if ¬ ((((p1.toUInt32 >>> ((16 : Int32) &&& 31).toUInt32).toInt32) &&& (1 : Int32)) = (0 : Int32)) then (1 : Int32) else 0)), .val (.int l3), .unset, .unset, .unset, .unset] [(.int ((p2.toUInt32 >>> ((16 : Int32) &&& 31).toUInt32).toInt32))])) t
    refine XS.iconst X3.here hx rfl (hb hby at_85) ?_
    refine XS.iand X3.here hx rfl (hb hby at_86) rfl ?_
    exact k
  refine own_go (B := T3.setTop (mkF m 95 #[.val (.int p0), .val (.int p1), .val (.int p2), .val (.long q3), .second, .val (.long q4), .second, .val (.long q5), .second, .val (.ref b1), .val (.int (1 : Int32)), .val (.int l1), .val (.int (if ¬ ((((p0.toUInt32 >>> ((16 : Int32) &&& 31).toUInt32).toInt32) &&& (1 : Int32)) = (0 : Int32)) then (1 : Int32) else 0)), .val (.int l2), .val (.int (if ¬ ((((p1.toUInt32 >>> ((16 : Int32) &&& 31).toUInt32).toInt32) &&& (1 : Int32)) = (0 : Int32)) then (1 : Int32) else 0)), .val (.int l3), .unset, .unset, .unset, .unset] [(.int (if ¬ ((((p2.toUInt32 >>> ((16 : Int32) &&& 31).toUInt32).toInt32) &&& (1 : Int32)) = (0 : Int32)) then (1 : Int32) else 0))])) (fun t k => ?_) ?_
  · skip
    show Steps p.tables e below (T3.setTop (mkF m 87 #[.val (.int p0), .val (.int p1), .val (.int p2), .val (.long q3), .second, .val (.long q4), .second, .val (.long q5), .second, .val (.ref b1), .val (.int (1 : Int32)), .val (.int l1), .val (.int (if ¬ ((((p0.toUInt32 >>> ((16 : Int32) &&& 31).toUInt32).toInt32) &&& (1 : Int32)) = (0 : Int32)) then (1 : Int32) else 0)), .val (.int l2), .val (.int (if ¬ ((((p1.toUInt32 >>> ((16 : Int32) &&& 31).toUInt32).toInt32) &&& (1 : Int32)) = (0 : Int32)) then (1 : Int32) else 0)), .val (.int l3), .unset, .unset, .unset, .unset] [(.int (((p2.toUInt32 >>> ((16 : Int32) &&& 31).toUInt32).toInt32) &&& (1 : Int32)))])) t
    by_cases hd7 : (((p2.toUInt32 >>> ((16 : Int32) &&& 31).toUInt32).toInt32) &&& (1 : Int32)) = (0 : Int32)
    · refine XS.ifYes X3.here hx rfl (pc0 := 87) (pc' := 94) rfl (hb hby at_87) rfl ((if0 _ _).trans (teq hd7).1) (by decide) (by decide) ?_
      show Steps p.tables e below (T3.setTop (mkF m 94 #[.val (.int p0), .val (.int p1), .val (.int p2), .val (.long q3), .second, .val (.long q4), .second, .val (.long q5), .second, .val (.ref b1), .val (.int (1 : Int32)), .val (.int l1), .val (.int (if ¬ ((((p0.toUInt32 >>> ((16 : Int32) &&& 31).toUInt32).toInt32) &&& (1 : Int32)) = (0 : Int32)) then (1 : Int32) else 0)), .val (.int l2), .val (.int (if ¬ ((((p1.toUInt32 >>> ((16 : Int32) &&& 31).toUInt32).toInt32) &&& (1 : Int32)) = (0 : Int32)) then (1 : Int32) else 0)), .val (.int l3), .unset, .unset, .unset, .unset] [])) t
      refine XS.iconst X3.here hx rfl (hb hby at_94) ?_
      show Steps p.tables e below (T3.setTop (mkF m 95 #[.val (.int p0), .val (.int p1), .val (.int p2), .val (.long q3), .second, .val (.long q4), .second, .val (.long q5), .second, .val (.ref b1), .val (.int (1 : Int32)), .val (.int l1), .val (.int (if ¬ ((((p0.toUInt32 >>> ((16 : Int32) &&& 31).toUInt32).toInt32) &&& (1 : Int32)) = (0 : Int32)) then (1 : Int32) else 0)), .val (.int l2), .val (.int (if ¬ ((((p1.toUInt32 >>> ((16 : Int32) &&& 31).toUInt32).toInt32) &&& (1 : Int32)) = (0 : Int32)) then (1 : Int32) else 0)), .val (.int l3), .unset, .unset, .unset, .unset] [(.int (0 : Int32))])) t
      exact (congrArg (fun z => Steps p.tables e below (T3.setTop (mkF m 95 #[.val (.int p0), .val (.int p1), .val (.int p2), .val (.long q3), .second, .val (.long q4), .second, .val (.long q5), .second, .val (.ref b1), .val (.int (1 : Int32)), .val (.int l1), .val (.int (if ¬ ((((p0.toUInt32 >>> ((16 : Int32) &&& 31).toUInt32).toInt32) &&& (1 : Int32)) = (0 : Int32)) then (1 : Int32) else 0)), .val (.int l2), .val (.int (if ¬ ((((p1.toUInt32 >>> ((16 : Int32) &&& 31).toUInt32).toInt32) &&& (1 : Int32)) = (0 : Int32)) then (1 : Int32) else 0)), .val (.int l3), .unset, .unset, .unset, .unset] [(.int z)])) t) (if_neg (fun q => q hd7))).mp k
    · refine XS.ifNo X3.here hx rfl (hb hby at_87) rfl ((if0 _ _).trans (feq hd7).1) ?_
      show Steps p.tables e below (T3.setTop (mkF m 90 #[.val (.int p0), .val (.int p1), .val (.int p2), .val (.long q3), .second, .val (.long q4), .second, .val (.long q5), .second, .val (.ref b1), .val (.int (1 : Int32)), .val (.int l1), .val (.int (if ¬ ((((p0.toUInt32 >>> ((16 : Int32) &&& 31).toUInt32).toInt32) &&& (1 : Int32)) = (0 : Int32)) then (1 : Int32) else 0)), .val (.int l2), .val (.int (if ¬ ((((p1.toUInt32 >>> ((16 : Int32) &&& 31).toUInt32).toInt32) &&& (1 : Int32)) = (0 : Int32)) then (1 : Int32) else 0)), .val (.int l3), .unset, .unset, .unset, .unset] [])) t
      refine XS.iconst X3.here hx rfl (hb hby at_90) ?_
      show Steps p.tables e below (T3.setTop (mkF m 91 #[.val (.int p0), .val (.int p1), .val (.int p2), .val (.long q3), .second, .val (.long q4), .second, .val (.long q5), .second, .val (.ref b1), .val (.int (1 : Int32)), .val (.int l1), .val (.int (if ¬ ((((p0.toUInt32 >>> ((16 : Int32) &&& 31).toUInt32).toInt32) &&& (1 : Int32)) = (0 : Int32)) then (1 : Int32) else 0)), .val (.int l2), .val (.int (if ¬ ((((p1.toUInt32 >>> ((16 : Int32) &&& 31).toUInt32).toInt32) &&& (1 : Int32)) = (0 : Int32)) then (1 : Int32) else 0)), .val (.int l3), .unset, .unset, .unset, .unset] [(.int (1 : Int32))])) t
      refine XS.goto X3.here hx rfl (pc0 := 91) (pc' := 95) rfl (hb hby at_91) (by decide) (by decide) ?_
      show Steps p.tables e below (T3.setTop (mkF m 95 #[.val (.int p0), .val (.int p1), .val (.int p2), .val (.long q3), .second, .val (.long q4), .second, .val (.long q5), .second, .val (.ref b1), .val (.int (1 : Int32)), .val (.int l1), .val (.int (if ¬ ((((p0.toUInt32 >>> ((16 : Int32) &&& 31).toUInt32).toInt32) &&& (1 : Int32)) = (0 : Int32)) then (1 : Int32) else 0)), .val (.int l2), .val (.int (if ¬ ((((p1.toUInt32 >>> ((16 : Int32) &&& 31).toUInt32).toInt32) &&& (1 : Int32)) = (0 : Int32)) then (1 : Int32) else 0)), .val (.int l3), .unset, .unset, .unset, .unset] [(.int (1 : Int32))])) t
      exact (congrArg (fun z => Steps p.tables e below (T3.setTop (mkF m 95 #[.val (.int p0), .val (.int p1), .val (.int p2), .val (.long q3), .second, .val (.long q4), .second, .val (.long q5), .second, .val (.ref b1), .val (.int (1 : Int32)), .val (.int l1), .val (.int (if ¬ ((((p0.toUInt32 >>> ((16 : Int32) &&& 31).toUInt32).toInt32) &&& (1 : Int32)) = (0 : Int32)) then (1 : Int32) else 0)), .val (.int l2), .val (.int (if ¬ ((((p1.toUInt32 >>> ((16 : Int32) &&& 31).toUInt32).toInt32) &&& (1 : Int32)) = (0 : Int32)) then (1 : Int32) else 0)), .val (.int l3), .unset, .unset, .unset, .unset] [(.int z)])) t) (if_pos hd7)).mp k
  refine own_go (B := T3.setTop (mkF m 104 #[.val (.int p0), .val (.int p1), .val (.int p2), .val (.long q3), .second, .val (.long q4), .second, .val (.long q5), .second, .val (.ref b1), .val (.int (1 : Int32)), .val (.int l1), .val (.int (if ¬ ((((p0.toUInt32 >>> ((16 : Int32) &&& 31).toUInt32).toInt32) &&& (1 : Int32)) = (0 : Int32)) then (1 : Int32) else 0)), .val (.int l2), .val (.int (if ¬ ((((p1.toUInt32 >>> ((16 : Int32) &&& 31).toUInt32).toInt32) &&& (1 : Int32)) = (0 : Int32)) then (1 : Int32) else 0)), .val (.int l3), .val (.int (if ¬ ((((p2.toUInt32 >>> ((16 : Int32) &&& 31).toUInt32).toInt32) &&& (1 : Int32)) = (0 : Int32)) then (1 : Int32) else 0)), .unset, .unset, .unset] [(.int (if ¬ ((((p0.toUInt32 >>> ((16 : Int32) &&& 31).toUInt32).toInt32) &&& (1 : Int32)) = (0 : Int32)) then (1 : Int32) else 0)), (.long q3), (.int l1), (.ref b1)])) (fun t k => ?_) ?_
  · show Steps p.tables e below (T3.setTop (mkF m 95 #[.val (.int p0), .val (.int p1), .val (.int p2), .val (.long q3), .second, .val (.long q4), .second, .val (.long q5), .second, .val (.ref b1), .val (.int (1 : Int32)), .val (.int l1), .val (.int (if ¬ ((((p0.toUInt32 >>> ((16 : Int32) &&& 31).toUInt32).toInt32) &&& (1 : Int32)) = (0 : Int32)) then (1 : Int32) else 0)), .val (.int l2), .val (.int (if ¬ ((((p1.toUInt32 >>> ((16 : Int32) &&& 31).toUInt32).toInt32) &&& (1 : Int32)) = (0 : Int32)) then (1 : Int32) else 0)), .val (.int l3), .unset, .unset, .unset, .unset] [(.int (if ¬ ((((p2.toUInt32 >>> ((16 : Int32) &&& 31).toUInt32).toInt32) &&& (1 : Int32)) = (0 : Int32)) then (1 : Int32) else 0))])) t
    refine XS.istore X3.here hx rfl (hb hby at_95) rfl (l' := #[.val (.int p0), .val (.int p1), .val (.int p2), .val (.long q3), .second, .val (.long q4), .second, .val (.long q5), .second, .val (.ref b1), .val (.int (1 : Int32)), .val (.int l1), .val (.int (if ¬ ((((p0.toUInt32 >>> ((16 : Int32) &&& 31).toUInt32).toInt32) &&& (1 : Int32)) = (0 : Int32)) then (1 : Int32) else 0)), .val (.int l2), .val (.int (if ¬ ((((p1.toUInt32 >>> ((16 : Int32) &&& 31).toUInt32).toInt32) &&& (1 : Int32)) = (0 : Int32)) then (1 : Int32) else 0)), .val (.int l3), .val (.int (if ¬ ((((p2.toUInt32 >>> ((16 : Int32) &&& 31).toUInt32).toInt32) &&& (1 : Int32)) = (0 : Int32)) then (1 : Int32) else 0)), .unset, .unset, .unset]) rfl ?_
    refine XS.aload X3.here hx rfl (hb hby at_97) rfl rfl ?_
    refine XS.iload X3.here hx rfl (hb hby at_99) rfl ?_
    refine XS.lloadN X3.here hx rfl (hb hby at_101) rfl ?_
    show Steps p.tables e below (T3.setTop (mkF m 102 #[.val (.int p0), .val (.int p1), .val (.int p2), .val (.long q3), .second, .val (.long q4), .second, .val (.long q5), .second, .val (.ref b1), .val (.int (1 : Int32)), .val (.int l1), .val (.int (if ¬ ((((p0.toUInt32 >>> ((16 : Int32) &&& 31).toUInt32).toInt32) &&& (1 : Int32)) = (0 : Int32)) then (1 : Int32) else 0)), .val (.int l2), .val (.int (if ¬ ((((p1.toUInt32 >>> ((16 : Int32) &&& 31).toUInt32).toInt32) &&& (1 : Int32)) = (0 : Int32)) then (1 : Int32) else 0)), .val (.int l3), .val (.int (if ¬ ((((p2.toUInt32 >>> ((16 : Int32) &&& 31).toUInt32).toInt32) &&& (1 : Int32)) = (0 : Int32)) then (1 : Int32) else 0)), .unset, .unset, .unset] [(.long q3), (.int l1), (.ref b1)])) t
    refine XS.iload X3.here hx rfl (hb hby at_102) rfl ?_
    exact k
  obtain ⟨cq8, kq8, q8a, q8b, q8c⟩ := isOf hZ e3 f2_0
  obtain ⟨_, _, ⟨T8, L8, k8, n8⟩, -, X8, ⟨Lc8, hQ8, l8, y8, z8⟩, st8⟩ := X3.virtualBack hx (y := (⟨"com/example/nimble_trace/nimbletrace/TextCost", "add", "(IJZ)V"⟩ : MethodName)) (z := (⟨"com/example/nimble_trace/nimbletrace/TextCost", "add", "(IJZ)V"⟩ : MethodName)) hown (mvT hZ (hw _ (List.mem_of_getElem? (i := 22) rfl))) (mvT hZ (hw _ (List.mem_of_getElem? (i := 23) rfl))) (notFace_of_selects (args := #[]) (mvT hZ (hw _ (List.mem_of_getElem? (i := 25) rfl)))) (mvT hZ (hw _ (List.mem_of_getElem? (i := 25) rfl))) (mvT hZ (hw _ (List.mem_of_getElem? (i := 24) rfl))) (by decide) (backOf (W := 0) (rma l Z a0 hw [] b1 l1 q3 (if ¬ ((((p0.toUInt32 >>> ((16 : Int32) &&& 31).toUInt32).toInt32) &&& (1 : Int32)) = (0 : Int32)) then (1 : Int32) else 0) (0 : Int64) (10000 : Int64) (0 : UInt64) (0 : UInt64) 1088 T2.heap n0 (Nat.le_trans Z0 K2.1) f2_0 g_b1 f2_1 f2_2 f2_3 f2_4 h_l1 (by decide) (by decide) own_mag0 own_mag0 (Or.inl rfl)) hZ (hw _ (List.mem_of_getElem? (i := 26) rfl)) (hw _ (List.mem_of_getElem? (i := 2) rfl)) (by decide) (by decide)) q8a q8c (g := (mkF m 104 #[.val (.int p0), .val (.int p1), .val (.int p2), .val (.long q3), .second, .val (.long q4), .second, .val (.long q5), .second, .val (.ref b1), .val (.int (1 : Int32)), .val (.int l1), .val (.int (if ¬ ((((p0.toUInt32 >>> ((16 : Int32) &&& 31).toUInt32).toInt32) &&& (1 : Int32)) = (0 : Int32)) then (1 : Int32) else 0)), .val (.int l2), .val (.int (if ¬ ((((p1.toUInt32 >>> ((16 : Int32) &&& 31).toUInt32).toInt32) &&& (1 : Int32)) = (0 : Int32)) then (1 : Int32) else 0)), .val (.int l3), .val (.int (if ¬ ((((p2.toUInt32 >>> ((16 : Int32) &&& 31).toUInt32).toInt32) &&& (1 : Int32)) = (0 : Int32)) then (1 : Int32) else 0)), .unset, .unset, .unset] [(.int (if ¬ ((((p0.toUInt32 >>> ((16 : Int32) &&& 31).toUInt32).toInt32) &&& (1 : Int32)) = (0 : Int32)) then (1 : Int32) else 0)), (.long q3), (.int l1), (.ref b1)])) rfl (by rw [hml]; rfl) (Steps.refl _) (argsL := [(.int l1), (.long q3), (.int (if ¬ ((((p0.toUInt32 >>> ((16 : Int32) &&& 31).toUInt32).toInt32) &&& (1 : Int32)) = (0 : Int32)) then (1 : Int32) else 0))]) (rest := []) (lenOf pd0_2 rfl) rfl (by show 2 * 0 + _ ≤ _; exact Nat.le_of_eq rfl) (hb hby at_104) (fun _ _ => ⟨rfl, e3, (by decide : 1 + 0 ≤ _), (by decide : 5 + 0 ≤ _)⟩)
  dsimp only [Pt.U, Pt.locs, Pt.cells, Pt.slots] at X8 l8 y8 z8 st8 hQ8
  subst y8 z8
  have X8 : Stand p l e room_1 s m #[(.int p0), (.int p1), (.int p2), (.long q3), (.long q4), (.long q5)] below meth c T8 _ 1 5 := X8
  obtain ⟨rfl, N8q, Kq8, f8_0, f8_1, ln8, nn8, lp8, f8_2, f8_3, f8_4, mN8, mL8, hC8⟩ := hQ8
  have N8 : Fr n0 L8 := by rw [l8]; exact Fr.app N3 N8q
  have K8 : Keep h0 T8.heap [] := K2.trans Kq8 (allS (Or.inr sz_b1) all0)
  rw [Int64.zero_add] at f8_1
  have hz8 := own_lines0 hC8
  subst hz8
  refine own_go (fun _ k => st8.trans k) ?_
  show own_Fin p.tables e below (T8.setTop (mkF m 107 #[.val (.int p0), .val (.int p1), .val (.int p2), .val (.long q3), .second, .val (.long q4), .second, .val (.long q5), .second, .val (.ref b1), .val (.int (1 : Int32)), .val (.int l1), .val (.int (if ¬ ((((p0.toUInt32 >>> ((16 : Int32) &&& 31).toUInt32).toInt32) &&& (1 : Int32)) = (0 : Int32)) then (1 : Int32) else 0)), .val (.int l2), .val (.int (if ¬ ((((p1.toUInt32 >>> ((16 : Int32) &&& 31).toUInt32).toInt32) &&& (1 : Int32)) = (0 : Int32)) then (1 : Int32) else 0)), .val (.int l3), .val (.int (if ¬ ((((p2.toUInt32 >>> ((16 : Int32) &&& 31).toUInt32).toInt32) &&& (1 : Int32)) = (0 : Int32)) then (1 : Int32) else 0)), .unset, .unset, .unset] [])) _
  refine own_go (B := T8.setTop (mkF m 117 #[.val (.int p0), .val (.int p1), .val (.int p2), .val (.long q3), .second, .val (.long q4), .second, .val (.long q5), .second, .val (.ref b1), .val (.int (1 : Int32)), .val (.int l1), .val (.int (if ¬ ((((p0.toUInt32 >>> ((16 : Int32) &&& 31).toUInt32).toInt32) &&& (1 : Int32)) = (0 : Int32)) then (1 : Int32) else 0)), .val (.int l2), .val (.int (if ¬ ((((p1.toUInt32 >>> ((16 : Int32) &&& 31).toUInt32).toInt32) &&& (1 : Int32)) = (0 : Int32)) then (1 : Int32) else 0)), .val (.int l3), .val (.int (if ¬ ((((p2.toUInt32 >>> ((16 : Int32) &&& 31).toUInt32).toInt32) &&& (1 : Int32)) = (0 : Int32)) then (1 : Int32) else 0)), .val (.int (0 : Int32)), .unset, .unset] [(.ref b1)])) (fun t k => ?_) ?_
  · show Steps p.tables e below (T8.setTop (mkF m 107 #[.val (.int p0), .val (.int p1), .val (.int p2), .val (.long q3), .second, .val (.long q4), .second, .val (.long q5), .second, .val (.ref b1), .val (.int (1 : Int32)), .val (.int l1), .val (.int (if ¬ ((((p0.toUInt32 >>> ((16 : Int32) &&& 31).toUInt32).toInt32) &&& (1 : Int32)) = (0 : Int32)) then (1 : Int32) else 0)), .val (.int l2), .val (.int (if ¬ ((((p1.toUInt32 >>> ((16 : Int32) &&& 31).toUInt32).toInt32) &&& (1 : Int32)) = (0 : Int32)) then (1 : Int32) else 0)), .val (.int l3), .val (.int (if ¬ ((((p2.toUInt32 >>> ((16 : Int32) &&& 31).toUInt32).toInt32) &&& (1 : Int32)) = (0 : Int32)) then (1 : Int32) else 0)), .unset, .unset, .unset] [])) t
    refine XS.iconst X8.here hx rfl (hb hby at_107) ?_
    refine XS.istore X8.here hx rfl (hb hby at_108) rfl (l' := #[.val (.int p0), .val (.int p1), .val (.int p2), .val (.long q3), .second, .val (.long q4), .second, .val (.long q5), .second, .val (.ref b1), .val (.int (1 : Int32)), .val (.int l1), .val (.int (if ¬ ((((p0.toUInt32 >>> ((16 : Int32) &&& 31).toUInt32).toInt32) &&& (1 : Int32)) = (0 : Int32)) then (1 : Int32) else 0)), .val (.int l2), .val (.int (if ¬ ((((p1.toUInt32 >>> ((16 : Int32) &&& 31).toUInt32).toInt32) &&& (1 : Int32)) = (0 : Int32)) then (1 : Int32) else 0)), .val (.int l3), .val (.int (if ¬ ((((p2.toUInt32 >>> ((16 : Int32) &&& 31).toUInt32).toInt32) &&& (1 : Int32)) = (0 : Int32)) then (1 : Int32) else 0)), .val (.int (0 : Int32)), .unset, .unset]) rfl ?_
    refine XS.iload X8.here hx rfl (hb hby at_110) rfl ?_
    refine XS.ifNo X8.here hx rfl (hb hby at_112) rfl ((if0 _ _).trans (feq (by decide : ¬ ((1 : Int32) = (0 : Int32)))).1) ?_
    show Steps p.tables e below (T8.setTop (mkF m 115 #[.val (.int p0), .val (.int p1), .val (.int p2), .val (.long q3), .second, .val (.long q4), .second, .val (.long q5), .second, .val (.ref b1), .val (.int (1 : Int32)), .val (.int l1), .val (.int (if ¬ ((((p0.toUInt32 >>> ((16 : Int32) &&& 31).toUInt32).toInt32) &&& (1 : Int32)) = (0 : Int32)) then (1 : Int32) else 0)), .val (.int l2), .val (.int (if ¬ ((((p1.toUInt32 >>> ((16 : Int32) &&& 31).toUInt32).toInt32) &&& (1 : Int32)) = (0 : Int32)) then (1 : Int32) else 0)), .val (.int l3), .val (.int (if ¬ ((((p2.toUInt32 >>> ((16 : Int32) &&& 31).toUInt32).toInt32) &&& (1 : Int32)) = (0 : Int32)) then (1 : Int32) else 0)), .val (.int (0 : Int32)), .unset, .unset] [])) t
    refine XS.aload X8.here hx rfl (hb hby at_115) rfl rfl ?_
    exact k
  obtain ⟨cq9, kq9, q9a, q9b, q9c⟩ := isOf hZ rfl f8_0
  obtain ⟨_, _, ⟨T9, L9, k9, n9⟩, -, X9, ⟨Lc9, hQ9, l9, y9, z9⟩, st9⟩ := X8.virtualBack hx (y := (⟨"com/example/nimble_trace/nimbletrace/TextCost", "counts", "()Z"⟩ : MethodName)) (z := (⟨"com/example/nimble_trace/nimbletrace/TextCost", "counts", "()Z"⟩ : MethodName)) hown (mvT hZ (hw _ (List.mem_of_getElem? (i := 14) rfl))) (mvT hZ (hw _ (List.mem_of_getElem? (i := 15) rfl))) (notFace_of_selects (args := #[]) (mvT hZ (hw _ (List.mem_of_getElem? (i := 17) rfl)))) (mvT hZ (hw _ (List.mem_of_getElem? (i := 17) rfl))) (mvT hZ (hw _ (List.mem_of_getElem? (i := 16) rfl))) (by decide) (backOf (W := 0) (rmc l Z a0 hw [] b1 (0 : UInt64) T8.heap n0 (Nat.le_trans Z0 K8.1) f8_2) hZ (hw _ (List.mem_of_getElem? (i := 18) rfl)) (hw _ (List.mem_of_getElem? (i := 2) rfl)) (by decide) (by decide)) q9a q9c (g := (mkF m 117 #[.val (.int p0), .val (.int p1), .val (.int p2), .val (.long q3), .second, .val (.long q4), .second, .val (.long q5), .second, .val (.ref b1), .val (.int (1 : Int32)), .val (.int l1), .val (.int (if ¬ ((((p0.toUInt32 >>> ((16 : Int32) &&& 31).toUInt32).toInt32) &&& (1 : Int32)) = (0 : Int32)) then (1 : Int32) else 0)), .val (.int l2), .val (.int (if ¬ ((((p1.toUInt32 >>> ((16 : Int32) &&& 31).toUInt32).toInt32) &&& (1 : Int32)) = (0 : Int32)) then (1 : Int32) else 0)), .val (.int l3), .val (.int (if ¬ ((((p2.toUInt32 >>> ((16 : Int32) &&& 31).toUInt32).toInt32) &&& (1 : Int32)) = (0 : Int32)) then (1 : Int32) else 0)), .val (.int (0 : Int32)), .unset, .unset] [(.ref b1)])) rfl (by rw [hml]; rfl) (Steps.refl _) (argsL := []) (rest := []) (lenOf pd0_1 rfl) rfl (by show 2 * 0 + _ ≤ _; exact Nat.le_of_eq rfl) (hb hby at_117) (fun _ _ => ⟨rfl, rfl, (by decide : 1 + 0 ≤ _), (by decide : 5 + 0 ≤ _)⟩)
  dsimp only [Pt.U, Pt.locs, Pt.cells, Pt.slots] at X9 l9 y9 z9 st9 hQ9
  subst y9 z9
  have X9 : Stand p l e room_1 s m #[(.int p0), (.int p1), (.int p2), (.long q3), (.long q4), (.long q5)] below meth c T9 _ 1 5 := X9
  obtain ⟨rfl, N9q, e9⟩ := hQ9
  have N9 : Fr n0 L9 := by rw [l9]; exact Fr.app N8 N9q
  refine own_go (fun _ k => st9.trans k) ?_
  show own_Fin p.tables e below (T9.setTop (mkF m 120 #[.val (.int p0), .val (.int p1), .val (.int p2), .val (.long q3), .second, .val (.long q4), .second, .val (.long q5), .second, .val (.ref b1), .val (.int (1 : Int32)), .val (.int l1), .val (.int (if ¬ ((((p0.toUInt32 >>> ((16 : Int32) &&& 31).toUInt32).toInt32) &&& (1 : Int32)) = (0 : Int32)) then (1 : Int32) else 0)), .val (.int l2), .val (.int (if ¬ ((((p1.toUInt32 >>> ((16 : Int32) &&& 31).toUInt32).toInt32) &&& (1 : Int32)) = (0 : Int32)) then (1 : Int32) else 0)), .val (.int l3), .val (.int (if ¬ ((((p2.toUInt32 >>> ((16 : Int32) &&& 31).toUInt32).toInt32) &&& (1 : Int32)) = (0 : Int32)) then (1 : Int32) else 0)), .val (.int (0 : Int32)), .unset, .unset] [(.int (if (0 : Int32) < (cmpValue (FP.dcmp (0 : UInt64) FP.dconst0) .l) then (1 : Int32) else 0))])) _
  refine own_go (B := T9.setTop (mkF m 122 #[.val (.int p0), .val (.int p1), .val (.int p2), .val (.long q3), .second, .val (.long q4), .second, .val (.long q5), .second, .val (.ref b1), .val (.int (1 : Int32)), .val (.int l1), .val (.int (if ¬ ((((p0.toUInt32 >>> ((16 : Int32) &&& 31).toUInt32).toInt32) &&& (1 : Int32)) = (0 : Int32)) then (1 : Int32) else 0)), .val (.int l2), .val (.int (if ¬ ((((p1.toUInt32 >>> ((16 : Int32) &&& 31).toUInt32).toInt32) &&& (1 : Int32)) = (0 : Int32)) then (1 : Int32) else 0)), .val (.int l3), .val (.int (if ¬ ((((p2.toUInt32 >>> ((16 : Int32) &&& 31).toUInt32).toInt32) &&& (1 : Int32)) = (0 : Int32)) then (1 : Int32) else 0)), .val (.int (0 : Int32)), .unset, .unset] [(.int (0 : Int32)), (.int (if (0 : Int32) < (cmpValue (FP.dcmp (0 : UInt64) FP.dconst0) .l) then (1 : Int32) else 0))])) (fun t k => ?_) ?_
  · show Steps p.tables e below (T9.setTop (mkF m 120 #[.val (.int p0), .val (.int p1), .val (.int p2), .val (.long q3), .second, .val (.long q4), .second, .val (.long q5), .second, .val (.ref b1), .val (.int (1 : Int32)), .val (.int l1), .val (.int (if ¬ ((((p0.toUInt32 >>> ((16 : Int32) &&& 31).toUInt32).toInt32) &&& (1 : Int32)) = (0 : Int32)) then (1 : Int32) else 0)), .val (.int l2), .val (.int (if ¬ ((((p1.toUInt32 >>> ((16 : Int32) &&& 31).toUInt32).toInt32) &&& (1 : Int32)) = (0 : Int32)) then (1 : Int32) else 0)), .val (.int l3), .val (.int (if ¬ ((((p2.toUInt32 >>> ((16 : Int32) &&& 31).toUInt32).toInt32) &&& (1 : Int32)) = (0 : Int32)) then (1 : Int32) else 0)), .val (.int (0 : Int32)), .unset, .unset] [(.int (if (0 : Int32) < (cmpValue (FP.dcmp (0 : UInt64) FP.dconst0) .l) then (1 : Int32) else 0))])) t
    refine XS.iload X9.here hx rfl (hb hby at_120) rfl ?_
    exact k
  have hc10 : (if (0 : Int32) < (cmpValue (FP.dcmp (0 : UInt64) FP.dconst0) .l) then (1 : Int32) else 0) = (0 : Int32) := if_neg own_pos0
  refine own_go (B := T9.setTop (mkF m 140 #[.val (.int p0), .val (.int p1), .val (.int p2), .val (.long q3), .second, .val (.long q4), .second, .val (.long q5), .second, .val (.ref b1), .val (.int (1 : Int32)), .val (.int l1), .val (.int (if ¬ ((((p0.toUInt32 >>> ((16 : Int32) &&& 31).toUInt32).toInt32) &&& (1 : Int32)) = (0 : Int32)) then (1 : Int32) else 0)), .val (.int l2), .val (.int (if ¬ ((((p1.toUInt32 >>> ((16 : Int32) &&& 31).toUInt32).toInt32) &&& (1 : Int32)) = (0 : Int32)) then (1 : Int32) else 0)), .val (.int l3), .val (.int (if ¬ ((((p2.toUInt32 >>> ((16 : Int32) &&& 31).toUInt32).toInt32) &&& (1 : Int32)) = (0 : Int32)) then (1 : Int32) else 0)), .val (.int (0 : Int32)), .unset, .unset] [(.int (if ¬ ((((p1.toUInt32 >>> ((16 : Int32) &&& 31).toUInt32).toInt32) &&& (1 : Int32)) = (0 : Int32)) then (1 : Int32) else 0)), (.long q4), (.int l2), (.ref b1)])) (fun t k => ?_) ?_
  · show Steps p.tables e below (T9.setTop (mkF m 122 #[.val (.int p0), .val (.int p1), .val (.int p2), .val (.long q3), .second, .val (.long q4), .second, .val (.long q5), .second, .val (.ref b1), .val (.int (1 : Int32)), .val (.int l1), .val (.int (if ¬ ((((p0.toUInt32 >>> ((16 : Int32) &&& 31).toUInt32).toInt32) &&& (1 : Int32)) = (0 : Int32)) then (1 : Int32) else 0)), .val (.int l2), .val (.int (if ¬ ((((p1.toUInt32 >>> ((16 : Int32) &&& 31).toUInt32).toInt32) &&& (1 : Int32)) = (0 : Int32)) then (1 : Int32) else 0)), .val (.int l3), .val (.int (if ¬ ((((p2.toUInt32 >>> ((16 : Int32) &&& 31).toUInt32).toInt32) &&& (1 : Int32)) = (0 : Int32)) then (1 : Int32) else 0)), .val (.int (0 : Int32)), .unset, .unset] [(.int (0 : Int32)), (.int (if (0 : Int32) < (cmpValue (FP.dcmp (0 : UInt64) FP.dconst0) .l) then (1 : Int32) else 0))])) t
    refine XS.icmpNo X9.here hx rfl (hb hby at_122) rfl (teq hc10).2 ?_
    refine XS.iconst X9.here hx rfl (hb hby at_125) ?_
    refine XS.goto X9.here hx rfl (pc0 := 126) (pc' := 130) rfl (hb hby at_126) (by decide) (by decide) ?_
    refine XS.istore X9.here hx rfl (hb hby at_130) rfl (l' := #[.val (.int p0), .val (.int p1), .val (.int p2), .val (.long q3), .second, .val (.long q4), .second, .val (.long q5), .second, .val (.ref b1), .val (.int (1 : Int32)), .val (.int l1), .val (.int (if ¬ ((((p0.toUInt32 >>> ((16 : Int32) &&& 31).toUInt32).toInt32) &&& (1 : Int32)) = (0 : Int32)) then (1 : Int32) else 0)), .val (.int l2), .val (.int (if ¬ ((((p1.toUInt32 >>> ((16 : Int32) &&& 31).toUInt32).toInt32) &&& (1 : Int32)) = (0 : Int32)) then (1 : Int32) else 0)), .val (.int l3), .val (.int (if ¬ ((((p2.toUInt32 >>> ((16 : Int32) &&& 31).toUInt32).toInt32) &&& (1 : Int32)) = (0 : Int32)) then (1 : Int32) else 0)), .val (.int (0 : Int32)), .unset, .unset]) rfl ?_
    show Steps p.tables e below (T9.setTop (mkF m 132 #[.val (.int p0), .val (.int p1), .val (.int p2), .val (.long q3), .second, .val (.long q4), .second, .val (.long q5), .second, .val (.ref b1), .val (.int (1 : Int32)), .val (.int l1), .val (.int (if ¬ ((((p0.toUInt32 >>> ((16 : Int32) &&& 31).toUInt32).toInt32) &&& (1 : Int32)) = (0 : Int32)) then (1 : Int32) else 0)), .val (.int l2), .val (.int (if ¬ ((((p1.toUInt32 >>> ((16 : Int32) &&& 31).toUInt32).toInt32) &&& (1 : Int32)) = (0 : Int32)) then (1 : Int32) else 0)), .val (.int l3), .val (.int (if ¬ ((((p2.toUInt32 >>> ((16 : Int32) &&& 31).toUInt32).toInt32) &&& (1 : Int32)) = (0 : Int32)) then (1 : Int32) else 0)), .val (.int (0 : Int32)), .unset, .unset] [])) t
    refine XS.aload X9.here hx rfl (hb hby at_132) rfl rfl ?_
    refine XS.iload X9.here hx rfl (hb hby at_134) rfl ?_
    refine XS.lload X9.here hx rfl (hb hby at_136) rfl ?_
    refine XS.iload X9.here hx rfl (hb hby at_138) rfl ?_
    exact k
  obtain ⟨cq11, kq11, q11a, q11b, q11c⟩ := isOf hZ e9 f8_0
  obtain ⟨_, _, ⟨T11, L11, k11, n11⟩, -, X11, ⟨Lc11, hQ11, l11, y11, z11⟩, st11⟩ := X9.virtualBack hx (y := (⟨"com/example/nimble_trace/nimbletrace/TextCost", "add", "(IJZ)V"⟩ : MethodName)) (z := (⟨"com/example/nimble_trace/nimbletrace/TextCost", "add", "(IJZ)V"⟩ : MethodName)) hown (mvT hZ (hw _ (List.mem_of_getElem? (i := 22) rfl))) (mvT hZ (hw _ (List.mem_of_getElem? (i := 23) rfl))) (notFace_of_selects (args := #[]) (mvT hZ (hw _ (List.mem_of_getElem? (i := 25) rfl)))) (mvT hZ (hw _ (List.mem_of_getElem? (i := 25) rfl))) (mvT hZ (hw _ (List.mem_of_getElem? (i := 24) rfl))) (by decide) (backOf (W := 0) (rma l Z a0 hw [] b1 l2 q4 (if ¬ ((((p1.toUInt32 >>> ((16 : Int32) &&& 31).toUInt32).toInt32) &&& (1 : Int32)) = (0 : Int32)) then (1 : Int32) else 0) (l1.toInt64) lp8 (0 : UInt64) nn8 1093 T8.heap n0 (Nat.le_trans Z0 K8.1) f8_0 g_b1 f8_1 f8_4 f8_2 f8_3 h_l2 (by decide) (by decide) mN8 mL8 (Or.inl rfl)) hZ (hw _ (List.mem_of_getElem? (i := 26) rfl)) (hw _ (List.mem_of_getElem? (i := 2) rfl)) (by decide) (by decide)) q11a q11c (g := (mkF m 140 #[.val (.int p0), .val (.int p1), .val (.int p2), .val (.long q3), .second, .val (.long q4), .second, .val (.long q5), .second, .val (.ref b1), .val (.int (1 : Int32)), .val (.int l1), .val (.int (if ¬ ((((p0.toUInt32 >>> ((16 : Int32) &&& 31).toUInt32).toInt32) &&& (1 : Int32)) = (0 : Int32)) then (1 : Int32) else 0)), .val (.int l2), .val (.int (if ¬ ((((p1.toUInt32 >>> ((16 : Int32) &&& 31).toUInt32).toInt32) &&& (1 : Int32)) = (0 : Int32)) then (1 : Int32) else 0)), .val (.int l3), .val (.int (if ¬ ((((p2.toUInt32 >>> ((16 : Int32) &&& 31).toUInt32).toInt32) &&& (1 : Int32)) = (0 : Int32)) then (1 : Int32) else 0)), .val (.int (0 : Int32)), .unset, .unset] [(.int (if ¬ ((((p1.toUInt32 >>> ((16 : Int32) &&& 31).toUInt32).toInt32) &&& (1 : Int32)) = (0 : Int32)) then (1 : Int32) else 0)), (.long q4), (.int l2), (.ref b1)])) rfl (by rw [hml]; rfl) (Steps.refl _) (argsL := [(.int l2), (.long q4), (.int (if ¬ ((((p1.toUInt32 >>> ((16 : Int32) &&& 31).toUInt32).toInt32) &&& (1 : Int32)) = (0 : Int32)) then (1 : Int32) else 0))]) (rest := []) (lenOf pd0_2 rfl) rfl (by show 2 * 0 + _ ≤ _; exact Nat.le_of_eq rfl) (hb hby at_140) (fun _ _ => ⟨rfl, e9, (by decide : 1 + 0 ≤ _), (by decide : 5 + 0 ≤ _)⟩)
  dsimp only [Pt.U, Pt.locs, Pt.cells, Pt.slots] at X11 l11 y11 z11 st11 hQ11
  subst y11 z11
  have X11 : Stand p l e room_1 s m #[(.int p0), (.int p1), (.int p2), (.long q3), (.long q4), (.long q5)] below meth c T11 _ 1 5 := X11
  obtain ⟨rfl, N11q, Kq11, f11_0, f11_1, ln11, nn11, lp11, f11_2, f11_3, f11_4, mN11, mL11, hC11⟩ := hQ11
  have N11 : Fr n0 L11 := by rw [l11]; exact Fr.app N9 N11q
  have K11 : Keep h0 T11.heap [] := K8.trans Kq11 (allS (Or.inr sz_b1) all0)
  refine own_go (fun _ k => st11.trans k) ?_
  show own_Fin p.tables e below (T11.setTop (mkF m 143 #[.val (.int p0), .val (.int p1), .val (.int p2), .val (.long q3), .second, .val (.long q4), .second, .val (.long q5), .second, .val (.ref b1), .val (.int (1 : Int32)), .val (.int l1), .val (.int (if ¬ ((((p0.toUInt32 >>> ((16 : Int32) &&& 31).toUInt32).toInt32) &&& (1 : Int32)) = (0 : Int32)) then (1 : Int32) else 0)), .val (.int l2), .val (.int (if ¬ ((((p1.toUInt32 >>> ((16 : Int32) &&& 31).toUInt32).toInt32) &&& (1 : Int32)) = (0 : Int32)) then (1 : Int32) else 0)), .val (.int l3), .val (.int (if ¬ ((((p2.toUInt32 >>> ((16 : Int32) &&& 31).toUInt32).toInt32) &&& (1 : Int32)) = (0 : Int32)) then (1 : Int32) else 0)), .val (.int (0 : Int32)), .unset, .unset] [])) _
  refine own_go (B := T11.setTop (mkF m 145 #[.val (.int p0), .val (.int p1), .val (.int p2), .val (.long q3), .second, .val (.long q4), .second, .val (.long q5), .second, .val (.ref b1), .val (.int (1 : Int32)), .val (.int l1), .val (.int (if ¬ ((((p0.toUInt32 >>> ((16 : Int32) &&& 31).toUInt32).toInt32) &&& (1 : Int32)) = (0 : Int32)) then (1 : Int32) else 0)), .val (.int l2), .val (.int (if ¬ ((((p1.toUInt32 >>> ((16 : Int32) &&& 31).toUInt32).toInt32) &&& (1 : Int32)) = (0 : Int32)) then (1 : Int32) else 0)), .val (.int l3), .val (.int (if ¬ ((((p2.toUInt32 >>> ((16 : Int32) &&& 31).toUInt32).toInt32) &&& (1 : Int32)) = (0 : Int32)) then (1 : Int32) else 0)), .val (.int (0 : Int32)), .unset, .unset] [(.int (0 : Int32))])) (fun t k => ?_) ?_
  · show Steps p.tables e below (T11.setTop (mkF m 143 #[.val (.int p0), .val (.int p1), .val (.int p2), .val (.long q3), .second, .val (.long q4), .second, .val (.long q5), .second, .val (.ref b1), .val (.int (1 : Int32)), .val (.int l1), .val (.int (if ¬ ((((p0.toUInt32 >>> ((16 : Int32) &&& 31).toUInt32).toInt32) &&& (1 : Int32)) = (0 : Int32)) then (1 : Int32) else 0)), .val (.int l2), .val (.int (if ¬ ((((p1.toUInt32 >>> ((16 : Int32) &&& 31).toUInt32).toInt32) &&& (1 : Int32)) = (0 : Int32)) then (1 : Int32) else 0)), .val (.int l3), .val (.int (if ¬ ((((p2.toUInt32 >>> ((16 : Int32) &&& 31).toUInt32).toInt32) &&& (1 : Int32)) = (0 : Int32)) then (1 : Int32) else 0)), .val (.int (0 : Int32)), .unset, .unset] [])) t
    refine XS.iload X11.here hx rfl (hb hby at_143) rfl ?_
    exact k
  refine own_go (B := T11.setTop (mkF m 168 #[.val (.int p0), .val (.int p1), .val (.int p2), .val (.long q3), .second, .val (.long q4), .second, .val (.long q5), .second, .val (.ref b1), .val (.int (1 : Int32)), .val (.int l1), .val (.int (if ¬ ((((p0.toUInt32 >>> ((16 : Int32) &&& 31).toUInt32).toInt32) &&& (1 : Int32)) = (0 : Int32)) then (1 : Int32) else 0)), .val (.int l2), .val (.int (if ¬ ((((p1.toUInt32 >>> ((16 : Int32) &&& 31).toUInt32).toInt32) &&& (1 : Int32)) = (0 : Int32)) then (1 : Int32) else 0)), .val (.int l3), .val (.int (if ¬ ((((p2.toUInt32 >>> ((16 : Int32) &&& 31).toUInt32).toInt32) &&& (1 : Int32)) = (0 : Int32)) then (1 : Int32) else 0)), .val (.int (0 : Int32)), .unset, .unset] [(.int (if (¬ ((((p1.toUInt32 >>> ((16 : Int32) &&& 31).toUInt32).toInt32) &&& (1 : Int32)) = (0 : Int32))) ∧ (¬ ((l1.toInt64) < (20000 : Int64))) then (1 : Int32) else 0))])) (fun t k => ?_) ?_
  · skip
    show Steps p.tables e below (T11.setTop (mkF m 145 #[.val (.int p0), .val (.int p1), .val (.int p2), .val (.long q3), .second, .val (.long q4), .second, .val (.long q5), .second, .val (.ref b1), .val (.int (1 : Int32)), .val (.int l1), .val (.int (if ¬ ((((p0.toUInt32 >>> ((16 : Int32) &&& 31).toUInt32).toInt32) &&& (1 : Int32)) = (0 : Int32)) then (1 : Int32) else 0)), .val (.int l2), .val (.int (if ¬ ((((p1.toUInt32 >>> ((16 : Int32) &&& 31).toUInt32).toInt32) &&& (1 : Int32)) = (0 : Int32)) then (1 : Int32) else 0)), .val (.int l3), .val (.int (if ¬ ((((p2.toUInt32 >>> ((16 : Int32) &&& 31).toUInt32).toInt32) &&& (1 : Int32)) = (0 : Int32)) then (1 : Int32) else 0)), .val (.int (0 : Int32)), .unset, .unset] [(.int (0 : Int32))])) t
    refine XS.ifNo X11.here hx rfl (hb hby at_145) rfl ((if0 _ _).trans (teq (rfl : (0 : Int32) = (0 : Int32))).2) ?_
    show Steps p.tables e below (T11.setTop (mkF m 148 #[.val (.int p0), .val (.int p1), .val (.int p2), .val (.long q3), .second, .val (.long q4), .second, .val (.long q5), .second, .val (.ref b1), .val (.int (1 : Int32)), .val (.int l1), .val (.int (if ¬ ((((p0.toUInt32 >>> ((16 : Int32) &&& 31).toUInt32).toInt32) &&& (1 : Int32)) = (0 : Int32)) then (1 : Int32) else 0)), .val (.int l2), .val (.int (if ¬ ((((p1.toUInt32 >>> ((16 : Int32) &&& 31).toUInt32).toInt32) &&& (1 : Int32)) = (0 : Int32)) then (1 : Int32) else 0)), .val (.int l3), .val (.int (if ¬ ((((p2.toUInt32 >>> ((16 : Int32) &&& 31).toUInt32).toInt32) &&& (1 : Int32)) = (0 : Int32)) then (1 : Int32) else 0)), .val (.int (0 : Int32)), .unset, .unset] [])) t
    refine XS.iload X11.here hx rfl (hb hby at_148) rfl ?_
    show Steps p.tables e below (T11.setTop (mkF m 150 #[.val (.int p0), .val (.int p1), .val (.int p2), .val (.long q3), .second, .val (.long q4), .second, .val (.long q5), .second, .val (.ref b1), .val (.int (1 : Int32)), .val (.int l1), .val (.int (if ¬ ((((p0.toUInt32 >>> ((16 : Int32) &&& 31).toUInt32).toInt32) &&& (1 : Int32)) = (0 : Int32)) then (1 : Int32) else 0)), .val (.int l2), .val (.int (if ¬ ((((p1.toUInt32 >>> ((16 : Int32) &&& 31).toUInt32).toInt32) &&& (1 : Int32)) = (0 : Int32)) then (1 : Int32) else 0)), .val (.int l3), .val (.int (if ¬ ((((p2.toUInt32 >>> ((16 : Int32) &&& 31).toUInt32).toInt32) &&& (1 : Int32)) = (0 : Int32)) then (1 : Int32) else 0)), .val (.int (0 : Int32)), .unset, .unset] [(.int (if ¬ ((((p1.toUInt32 >>> ((16 : Int32) &&& 31).toUInt32).toInt32) &&& (1 : Int32)) = (0 : Int32)) then (1 : Int32) else 0))])) t
    by_cases hd12 : ¬ ((((p1.toUInt32 >>> ((16 : Int32) &&& 31).toUInt32).toInt32) &&& (1 : Int32)) = (0 : Int32))
    · refine XS.ifNo X11.here hx rfl (hb hby at_150) rfl (own_beqF hd12) ?_
      show Steps p.tables e below (T11.setTop (mkF m 153 #[.val (.int p0), .val (.int p1), .val (.int p2), .val (.long q3), .second, .val (.long q4), .second, .val (.long q5), .second, .val (.ref b1), .val (.int (1 : Int32)), .val (.int l1), .val (.int (if ¬ ((((p0.toUInt32 >>> ((16 : Int32) &&& 31).toUInt32).toInt32) &&& (1 : Int32)) = (0 : Int32)) then (1 : Int32) else 0)), .val (.int l2), .val (.int (if ¬ ((((p1.toUInt32 >>> ((16 : Int32) &&& 31).toUInt32).toInt32) &&& (1 : Int32)) = (0 : Int32)) then (1 : Int32) else 0)), .val (.int l3), .val (.int (if ¬ ((((p2.toUInt32 >>> ((16 : Int32) &&& 31).toUInt32).toInt32) &&& (1 : Int32)) = (0 : Int32)) then (1 : Int32) else 0)), .val (.int (0 : Int32)), .unset, .unset] [])) t
      refine XS.iload X11.here hx rfl (hb hby at_153) rfl ?_
      show Steps p.tables e below (T11.setTop (mkF m 155 #[.val (.int p0), .val (.int p1), .val (.int p2), .val (.long q3), .second, .val (.long q4), .second, .val (.long q5), .second, .val (.ref b1), .val (.int (1 : Int32)), .val (.int l1), .val (.int (if ¬ ((((p0.toUInt32 >>> ((16 : Int32) &&& 31).toUInt32).toInt32) &&& (1 : Int32)) = (0 : Int32)) then (1 : Int32) else 0)), .val (.int l2), .val (.int (if ¬ ((((p1.toUInt32 >>> ((16 : Int32) &&& 31).toUInt32).toInt32) &&& (1 : Int32)) = (0 : Int32)) then (1 : Int32) else 0)), .val (.int l3), .val (.int (if ¬ ((((p2.toUInt32 >>> ((16 : Int32) &&& 31).toUInt32).toInt32) &&& (1 : Int32)) = (0 : Int32)) then (1 : Int32) else 0)), .val (.int (0 : Int32)), .unset, .unset] [(.int l1)])) t
      refine XS.i2l X11.here hx rfl (hb hby at_155) rfl ?_
      show Steps p.tables e below (T11.setTop (mkF m 156 #[.val (.int p0), .val (.int p1), .val (.int p2), .val (.long q3), .second, .val (.long q4), .second, .val (.long q5), .second, .val (.ref b1), .val (.int (1 : Int32)), .val (.int l1), .val (.int (if ¬ ((((p0.toUInt32 >>> ((16 : Int32) &&& 31).toUInt32).toInt32) &&& (1 : Int32)) = (0 : Int32)) then (1 : Int32) else 0)), .val (.int l2), .val (.int (if ¬ ((((p1.toUInt32 >>> ((16 : Int32) &&& 31).toUInt32).toInt32) &&& (1 : Int32)) = (0 : Int32)) then (1 : Int32) else 0)), .val (.int l3), .val (.int (if ¬ ((((p2.toUInt32 >>> ((16 : Int32) &&& 31).toUInt32).toInt32) &&& (1 : Int32)) = (0 : Int32)) then (1 : Int32) else 0)), .val (.int (0 : Int32)), .unset, .unset] [(.long (l1.toInt64))])) t
      refine X11.ldc2J hx hown (mvT hZ (hw _ (List.mem_of_getElem? (i := 42) rfl))) rfl (hb hby at_156) ?_
      show Steps p.tables e below (T11.setTop (mkF m 159 #[.val (.int p0), .val (.int p1), .val (.int p2), .val (.long q3), .second, .val (.long q4), .second, .val (.long q5), .second, .val (.ref b1), .val (.int (1 : Int32)), .val (.int l1), .val (.int (if ¬ ((((p0.toUInt32 >>> ((16 : Int32) &&& 31).toUInt32).toInt32) &&& (1 : Int32)) = (0 : Int32)) then (1 : Int32) else 0)), .val (.int l2), .val (.int (if ¬ ((((p1.toUInt32 >>> ((16 : Int32) &&& 31).toUInt32).toInt32) &&& (1 : Int32)) = (0 : Int32)) then (1 : Int32) else 0)), .val (.int l3), .val (.int (if ¬ ((((p2.toUInt32 >>> ((16 : Int32) &&& 31).toUInt32).toInt32) &&& (1 : Int32)) = (0 : Int32)) then (1 : Int32) else 0)), .val (.int (0 : Int32)), .unset, .unset] [(.long (20000 : Int64)), (.long (l1.toInt64))])) t
      refine XS.lcmp X11.here hx rfl (hb hby at_159) rfl ?_
      show Steps p.tables e below (T11.setTop (mkF m 160 #[.val (.int p0), .val (.int p1), .val (.int p2), .val (.long q3), .second, .val (.long q4), .second, .val (.long q5), .second, .val (.ref b1), .val (.int (1 : Int32)), .val (.int l1), .val (.int (if ¬ ((((p0.toUInt32 >>> ((16 : Int32) &&& 31).toUInt32).toInt32) &&& (1 : Int32)) = (0 : Int32)) then (1 : Int32) else 0)), .val (.int l2), .val (.int (if ¬ ((((p1.toUInt32 >>> ((16 : Int32) &&& 31).toUInt32).toInt32) &&& (1 : Int32)) = (0 : Int32)) then (1 : Int32) else 0)), .val (.int l3), .val (.int (if ¬ ((((p2.toUInt32 >>> ((16 : Int32) &&& 31).toUInt32).toInt32) &&& (1 : Int32)) = (0 : Int32)) then (1 : Int32) else 0)), .val (.int (0 : Int32)), .unset, .unset] [(.int (lcmpW (l1.toInt64) (20000 : Int64)))])) t
      by_cases hd13 : (l1.toInt64) < (20000 : Int64)
      · refine XS.ifYes X11.here hx rfl (pc0 := 160) (pc' := 167) rfl (hb hby at_160) rfl ((if0 _ _).trans (tlt ((lw_lt _ _).mpr hd13)).1) (by decide) (by decide) ?_
        show Steps p.tables e below (T11.setTop (mkF m 167 #[.val (.int p0), .val (.int p1), .val (.int p2), .val (.long q3), .second, .val (.long q4), .second, .val (.long q5), .second, .val (.ref b1), .val (.int (1 : Int32)), .val (.int l1), .val (.int (if ¬ ((((p0.toUInt32 >>> ((16 : Int32) &&& 31).toUInt32).toInt32) &&& (1 : Int32)) = (0 : Int32)) then (1 : Int32) else 0)), .val (.int l2), .val (.int (if ¬ ((((p1.toUInt32 >>> ((16 : Int32) &&& 31).toUInt32).toInt32) &&& (1 : Int32)) = (0 : Int32)) then (1 : Int32) else 0)), .val (.int l3), .val (.int (if ¬ ((((p2.toUInt32 >>> ((16 : Int32) &&& 31).toUInt32).toInt32) &&& (1 : Int32)) = (0 : Int32)) then (1 : Int32) else 0)), .val (.int (0 : Int32)), .unset, .unset] [])) t
        refine XS.iconst X11.here hx rfl (hb hby at_167) ?_
        show Steps p.tables e below (T11.setTop (mkF m 168 #[.val (.int p0), .val (.int p1), .val (.int p2), .val (.long q3), .second, .val (.long q4), .second, .val (.long q5), .second, .val (.ref b1), .val (.int (1 : Int32)), .val (.int l1), .val (.int (if ¬ ((((p0.toUInt32 >>> ((16 : Int32) &&& 31).toUInt32).toInt32) &&& (1 : Int32)) = (0 : Int32)) then (1 : Int32) else 0)), .val (.int l2), .val (.int (if ¬ ((((p1.toUInt32 >>> ((16 : Int32) &&& 31).toUInt32).toInt32) &&& (1 : Int32)) = (0 : Int32)) then (1 : Int32) else 0)), .val (.int l3), .val (.int (if ¬ ((((p2.toUInt32 >>> ((16 : Int32) &&& 31).toUInt32).toInt32) &&& (1 : Int32)) = (0 : Int32)) then (1 : Int32) else 0)), .val (.int (0 : Int32)), .unset, .unset] [(.int (0 : Int32))])) t
        exact (congrArg (fun z => Steps p.tables e below (T11.setTop (mkF m 168 #[.val (.int p0), .val (.int p1), .val (.int p2), .val (.long q3), .second, .val (.long q4), .second, .val (.long q5), .second, .val (.ref b1), .val (.int (1 : Int32)), .val (.int l1), .val (.int (if ¬ ((((p0.toUInt32 >>> ((16 : Int32) &&& 31).toUInt32).toInt32) &&& (1 : Int32)) = (0 : Int32)) then (1 : Int32) else 0)), .val (.int l2), .val (.int (if ¬ ((((p1.toUInt32 >>> ((16 : Int32) &&& 31).toUInt32).toInt32) &&& (1 : Int32)) = (0 : Int32)) then (1 : Int32) else 0)), .val (.int l3), .val (.int (if ¬ ((((p2.toUInt32 >>> ((16 : Int32) &&& 31).toUInt32).toInt32) &&& (1 : Int32)) = (0 : Int32)) then (1 : Int32) else 0)), .val (.int (0 : Int32)), .unset, .unset] [(.int z)])) t) (if_neg (fun q => (fun q => q hd13) q.2))).mp k
      · refine XS.ifNo X11.here hx rfl (hb hby at_160) rfl ((if0 _ _).trans (flt (fun q => hd13 ((lw_lt _ _).mp q))).1) ?_
        show Steps p.tables e below (T11.setTop (mkF m 163 #[.val (.int p0), .val (.int p1), .val (.int p2), .val (.long q3), .second, .val (.long q4), .second, .val (.long q5), .second, .val (.ref b1), .val (.int (1 : Int32)), .val (.int l1), .val (.int (if ¬ ((((p0.toUInt32 >>> ((16 : Int32) &&& 31).toUInt32).toInt32) &&& (1 : Int32)) = (0 : Int32)) then (1 : Int32) else 0)), .val (.int l2), .val (.int (if ¬ ((((p1.toUInt32 >>> ((16 : Int32) &&& 31).toUInt32).toInt32) &&& (1 : Int32)) = (0 : Int32)) then (1 : Int32) else 0)), .val (.int l3), .val (.int (if ¬ ((((p2.toUInt32 >>> ((16 : Int32) &&& 31).toUInt32).toInt32) &&& (1 : Int32)) = (0 : Int32)) then (1 : Int32) else 0)), .val (.int (0 : Int32)), .unset, .unset] [])) t
        refine XS.iconst X11.here hx rfl (hb hby at_163) ?_
        show Steps p.tables e below (T11.setTop (mkF m 164 #[.val (.int p0), .val (.int p1), .val (.int p2), .val (.long q3), .second, .val (.long q4), .second, .val (.long q5), .second, .val (.ref b1), .val (.int (1 : Int32)), .val (.int l1), .val (.int (if ¬ ((((p0.toUInt32 >>> ((16 : Int32) &&& 31).toUInt32).toInt32) &&& (1 : Int32)) = (0 : Int32)) then (1 : Int32) else 0)), .val (.int l2), .val (.int (if ¬ ((((p1.toUInt32 >>> ((16 : Int32) &&& 31).toUInt32).toInt32) &&& (1 : Int32)) = (0 : Int32)) then (1 : Int32) else 0)), .val (.int l3), .val (.int (if ¬ ((((p2.toUInt32 >>> ((16 : Int32) &&& 31).toUInt32).toInt32) &&& (1 : Int32)) = (0 : Int32)) then (1 : Int32) else 0)), .val (.int (0 : Int32)), .unset, .unset] [(.int (1 : Int32))])) t
        refine XS.goto X11.here hx rfl (pc0 := 164) (pc' := 168) rfl (hb hby at_164) (by decide) (by decide) ?_
        show Steps p.tables e below (T11.setTop (mkF m 168 #[.val (.int p0), .val (.int p1), .val (.int p2), .val (.long q3), .second, .val (.long q4), .second, .val (.long q5), .second, .val (.ref b1), .val (.int (1 : Int32)), .val (.int l1), .val (.int (if ¬ ((((p0.toUInt32 >>> ((16 : Int32) &&& 31).toUInt32).toInt32) &&& (1 : Int32)) = (0 : Int32)) then (1 : Int32) else 0)), .val (.int l2), .val (.int (if ¬ ((((p1.toUInt32 >>> ((16 : Int32) &&& 31).toUInt32).toInt32) &&& (1 : Int32)) = (0 : Int32)) then (1 : Int32) else 0)), .val (.int l3), .val (.int (if ¬ ((((p2.toUInt32 >>> ((16 : Int32) &&& 31).toUInt32).toInt32) &&& (1 : Int32)) = (0 : Int32)) then (1 : Int32) else 0)), .val (.int (0 : Int32)), .unset, .unset] [(.int (1 : Int32))])) t
        exact (congrArg (fun z => Steps p.tables e below (T11.setTop (mkF m 168 #[.val (.int p0), .val (.int p1), .val (.int p2), .val (.long q3), .second, .val (.long q4), .second, .val (.long q5), .second, .val (.ref b1), .val (.int (1 : Int32)), .val (.int l1), .val (.int (if ¬ ((((p0.toUInt32 >>> ((16 : Int32) &&& 31).toUInt32).toInt32) &&& (1 : Int32)) = (0 : Int32)) then (1 : Int32) else 0)), .val (.int l2), .val (.int (if ¬ ((((p1.toUInt32 >>> ((16 : Int32) &&& 31).toUInt32).toInt32) &&& (1 : Int32)) = (0 : Int32)) then (1 : Int32) else 0)), .val (.int l3), .val (.int (if ¬ ((((p2.toUInt32 >>> ((16 : Int32) &&& 31).toUInt32).toInt32) &&& (1 : Int32)) = (0 : Int32)) then (1 : Int32) else 0)), .val (.int (0 : Int32)), .unset, .unset] [(.int z)])) t) (if_pos ⟨hd12, hd13⟩)).mp k
    · refine XS.ifYes X11.here hx rfl (pc0 := 150) (pc' := 167) rfl (hb hby at_150) rfl (own_beqT hd12) (by decide) (by decide) ?_
      show Steps p.tables e below (T11.setTop (mkF m 167 #[.val (.int p0), .val (.int p1), .val (.int p2), .val (.long q3), .second, .val (.long q4), .second, .val (.long q5), .second, .val (.ref b1), .val (.int (1 : Int32)), .val (.int l1), .val (.int (if ¬ ((((p0.toUInt32 >>> ((16 : Int32) &&& 31).toUInt32).toInt32) &&& (1 : Int32)) = (0 : Int32)) then (1 : Int32) else 0)), .val (.int l2), .val (.int (if ¬ ((((p1.toUInt32 >>> ((16 : Int32) &&& 31).toUInt32).toInt32) &&& (1 : Int32)) = (0 : Int32)) then (1 : Int32) else 0)), .val (.int l3), .val (.int (if ¬ ((((p2.toUInt32 >>> ((16 : Int32) &&& 31).toUInt32).toInt32) &&& (1 : Int32)) = (0 : Int32)) then (1 : Int32) else 0)), .val (.int (0 : Int32)), .unset, .unset] [])) t
      refine XS.iconst X11.here hx rfl (hb hby at_167) ?_
      show Steps p.tables e below (T11.setTop (mkF m 168 #[.val (.int p0), .val (.int p1), .val (.int p2), .val (.long q3), .second, .val (.long q4), .second, .val (.long q5), .second, .val (.ref b1), .val (.int (1 : Int32)), .val (.int l1), .val (.int (if ¬ ((((p0.toUInt32 >>> ((16 : Int32) &&& 31).toUInt32).toInt32) &&& (1 : Int32)) = (0 : Int32)) then (1 : Int32) else 0)), .val (.int l2), .val (.int (if ¬ ((((p1.toUInt32 >>> ((16 : Int32) &&& 31).toUInt32).toInt32) &&& (1 : Int32)) = (0 : Int32)) then (1 : Int32) else 0)), .val (.int l3), .val (.int (if ¬ ((((p2.toUInt32 >>> ((16 : Int32) &&& 31).toUInt32).toInt32) &&& (1 : Int32)) = (0 : Int32)) then (1 : Int32) else 0)), .val (.int (0 : Int32)), .unset, .unset] [(.int (0 : Int32))])) t
      exact (congrArg (fun z => Steps p.tables e below (T11.setTop (mkF m 168 #[.val (.int p0), .val (.int p1), .val (.int p2), .val (.long q3), .second, .val (.long q4), .second, .val (.long q5), .second, .val (.ref b1), .val (.int (1 : Int32)), .val (.int l1), .val (.int (if ¬ ((((p0.toUInt32 >>> ((16 : Int32) &&& 31).toUInt32).toInt32) &&& (1 : Int32)) = (0 : Int32)) then (1 : Int32) else 0)), .val (.int l2), .val (.int (if ¬ ((((p1.toUInt32 >>> ((16 : Int32) &&& 31).toUInt32).toInt32) &&& (1 : Int32)) = (0 : Int32)) then (1 : Int32) else 0)), .val (.int l3), .val (.int (if ¬ ((((p2.toUInt32 >>> ((16 : Int32) &&& 31).toUInt32).toInt32) &&& (1 : Int32)) = (0 : Int32)) then (1 : Int32) else 0)), .val (.int (0 : Int32)), .unset, .unset] [(.int z)])) t) (if_neg (fun q => hd12 q.1))).mp k
  refine own_go (B := T11.setTop (mkF m 177 #[.val (.int p0), .val (.int p1), .val (.int p2), .val (.long q3), .second, .val (.long q4), .second, .val (.long q5), .second, .val (.ref b1), .val (.int (1 : Int32)), .val (.int l1), .val (.int (if ¬ ((((p0.toUInt32 >>> ((16 : Int32) &&& 31).toUInt32).toInt32) &&& (1 : Int32)) = (0 : Int32)) then (1 : Int32) else 0)), .val (.int l2), .val (.int (if ¬ ((((p1.toUInt32 >>> ((16 : Int32) &&& 31).toUInt32).toInt32) &&& (1 : Int32)) = (0 : Int32)) then (1 : Int32) else 0)), .val (.int l3), .val (.int (if ¬ ((((p2.toUInt32 >>> ((16 : Int32) &&& 31).toUInt32).toInt32) &&& (1 : Int32)) = (0 : Int32)) then (1 : Int32) else 0)), .val (.int (0 : Int32)), .val (.int (if (¬ ((((p1.toUInt32 >>> ((16 : Int32) &&& 31).toUInt32).toInt32) &&& (1 : Int32)) = (0 : Int32))) ∧ (¬ ((l1.toInt64) < (20000 : Int64))) then (1 : Int32) else 0)), .unset] [(.ref b1)])) (fun t k => ?_) ?_
  · show Steps p.tables e below (T11.setTop (mkF m 168 #[.val (.int p0), .val (.int p1), .val (.int p2), .val (.long q3), .second, .val (.long q4), .second, .val (.long q5), .second, .val (.ref b1), .val (.int (1 : Int32)), .val (.int l1), .val (.int (if ¬ ((((p0.toUInt32 >>> ((16 : Int32) &&& 31).toUInt32).toInt32) &&& (1 : Int32)) = (0 : Int32)) then (1 : Int32) else 0)), .val (.int l2), .val (.int (if ¬ ((((p1.toUInt32 >>> ((16 : Int32) &&& 31).toUInt32).toInt32) &&& (1 : Int32)) = (0 : Int32)) then (1 : Int32) else 0)), .val (.int l3), .val (.int (if ¬ ((((p2.toUInt32 >>> ((16 : Int32) &&& 31).toUInt32).toInt32) &&& (1 : Int32)) = (0 : Int32)) then (1 : Int32) else 0)), .val (.int (0 : Int32)), .unset, .unset] [(.int (if (¬ ((((p1.toUInt32 >>> ((16 : Int32) &&& 31).toUInt32).toInt32) &&& (1 : Int32)) = (0 : Int32))) ∧ (¬ ((l1.toInt64) < (20000 : Int64))) then (1 : Int32) else 0))])) t
    refine XS.istore X11.here hx rfl (hb hby at_168) rfl (l' := #[.val (.int p0), .val (.int p1), .val (.int p2), .val (.long q3), .second, .val (.long q4), .second, .val (.long q5), .second, .val (.ref b1), .val (.int (1 : Int32)), .val (.int l1), .val (.int (if ¬ ((((p0.toUInt32 >>> ((16 : Int32) &&& 31).toUInt32).toInt32) &&& (1 : Int32)) = (0 : Int32)) then (1 : Int32) else 0)), .val (.int l2), .val (.int (if ¬ ((((p1.toUInt32 >>> ((16 : Int32) &&& 31).toUInt32).toInt32) &&& (1 : Int32)) = (0 : Int32)) then (1 : Int32) else 0)), .val (.int l3), .val (.int (if ¬ ((((p2.toUInt32 >>> ((16 : Int32) &&& 31).toUInt32).toInt32) &&& (1 : Int32)) = (0 : Int32)) then (1 : Int32) else 0)), .val (.int (0 : Int32)), .val (.int (if (¬ ((((p1.toUInt32 >>> ((16 : Int32) &&& 31).toUInt32).toInt32) &&& (1 : Int32)) = (0 : Int32))) ∧ (¬ ((l1.toInt64) < (20000 : Int64))) then (1 : Int32) else 0)), .unset]) rfl ?_
    refine XS.iload X11.here hx rfl (hb hby at_170) rfl ?_
    refine XS.ifNo X11.here hx rfl (hb hby at_172) rfl ((if0 _ _).trans (feq (by decide : ¬ ((1 : Int32) = (0 : Int32)))).1) ?_
    refine XS.aload X11.here hx rfl (hb hby at_175) rfl rfl ?_
    exact k
  obtain ⟨cq14, kq14, q14a, q14b, q14c⟩ := isOf hZ rfl f11_0
  obtain ⟨_, _, ⟨T14, L14, k14, n14⟩, -, X14, ⟨Lc14, hQ14, l14, y14, z14⟩, st14⟩ := X11.virtualBack hx (y := (⟨"com/example/nimble_trace/nimbletrace/TextCost", "counts", "()Z"⟩ : MethodName)) (z := (⟨"com/example/nimble_trace/nimbletrace/TextCost", "counts", "()Z"⟩ : MethodName)) hown (mvT hZ (hw _ (List.mem_of_getElem? (i := 14) rfl))) (mvT hZ (hw _ (List.mem_of_getElem? (i := 15) rfl))) (notFace_of_selects (args := #[]) (mvT hZ (hw _ (List.mem_of_getElem? (i := 17) rfl)))) (mvT hZ (hw _ (List.mem_of_getElem? (i := 17) rfl))) (mvT hZ (hw _ (List.mem_of_getElem? (i := 16) rfl))) (by decide) (backOf (W := 0) (rmc l Z a0 hw [] b1 ln11 T11.heap n0 (Nat.le_trans Z0 K11.1) f11_2) hZ (hw _ (List.mem_of_getElem? (i := 18) rfl)) (hw _ (List.mem_of_getElem? (i := 2) rfl)) (by decide) (by decide)) q14a q14c (g := (mkF m 177 #[.val (.int p0), .val (.int p1), .val (.int p2), .val (.long q3), .second, .val (.long q4), .second, .val (.long q5), .second, .val (.ref b1), .val (.int (1 : Int32)), .val (.int l1), .val (.int (if ¬ ((((p0.toUInt32 >>> ((16 : Int32) &&& 31).toUInt32).toInt32) &&& (1 : Int32)) = (0 : Int32)) then (1 : Int32) else 0)), .val (.int l2), .val (.int (if ¬ ((((p1.toUInt32 >>> ((16 : Int32) &&& 31).toUInt32).toInt32) &&& (1 : Int32)) = (0 : Int32)) then (1 : Int32) else 0)), .val (.int l3), .val (.int (if ¬ ((((p2.toUInt32 >>> ((16 : Int32) &&& 31).toUInt32).toInt32) &&& (1 : Int32)) = (0 : Int32)) then (1 : Int32) else 0)), .val (.int (0 : Int32)), .val (.int (if (¬ ((((p1.toUInt32 >>> ((16 : Int32) &&& 31).toUInt32).toInt32) &&& (1 : Int32)) = (0 : Int32))) ∧ (¬ ((l1.toInt64) < (20000 : Int64))) then (1 : Int32) else 0)), .unset] [(.ref b1)])) rfl (by rw [hml]; rfl) (Steps.refl _) (argsL := []) (rest := []) (lenOf pd0_1 rfl) rfl (by show 2 * 0 + _ ≤ _; exact Nat.le_of_eq rfl) (hb hby at_177) (fun _ _ => ⟨rfl, rfl, (by decide : 1 + 0 ≤ _), (by decide : 5 + 0 ≤ _)⟩)
  dsimp only [Pt.U, Pt.locs, Pt.cells, Pt.slots] at X14 l14 y14 z14 st14 hQ14
  subst y14 z14
  have X14 : Stand p l e room_1 s m #[(.int p0), (.int p1), (.int p2), (.long q3), (.long q4), (.long q5)] below meth c T14 _ 1 5 := X14
  obtain ⟨rfl, N14q, e14⟩ := hQ14
  have N14 : Fr n0 L14 := by rw [l14]; exact Fr.app N11 N14q
  refine own_go (fun _ k => st14.trans k) ?_
  show own_Fin p.tables e below (T14.setTop (mkF m 180 #[.val (.int p0), .val (.int p1), .val (.int p2), .val (.long q3), .second, .val (.long q4), .second, .val (.long q5), .second, .val (.ref b1), .val (.int (1 : Int32)), .val (.int l1), .val (.int (if ¬ ((((p0.toUInt32 >>> ((16 : Int32) &&& 31).toUInt32).toInt32) &&& (1 : Int32)) = (0 : Int32)) then (1 : Int32) else 0)), .val (.int l2), .val (.int (if ¬ ((((p1.toUInt32 >>> ((16 : Int32) &&& 31).toUInt32).toInt32) &&& (1 : Int32)) = (0 : Int32)) then (1 : Int32) else 0)), .val (.int l3), .val (.int (if ¬ ((((p2.toUInt32 >>> ((16 : Int32) &&& 31).toUInt32).toInt32) &&& (1 : Int32)) = (0 : Int32)) then (1 : Int32) else 0)), .val (.int (0 : Int32)), .val (.int (if (¬ ((((p1.toUInt32 >>> ((16 : Int32) &&& 31).toUInt32).toInt32) &&& (1 : Int32)) = (0 : Int32))) ∧ (¬ ((l1.toInt64) < (20000 : Int64))) then (1 : Int32) else 0)), .unset] [(.int (if (0 : Int32) < (cmpValue (FP.dcmp ln11 FP.dconst0) .l) then (1 : Int32) else 0))])) _
  refine own_go (B := T14.setTop (mkF m 182 #[.val (.int p0), .val (.int p1), .val (.int p2), .val (.long q3), .second, .val (.long q4), .second, .val (.long q5), .second, .val (.ref b1), .val (.int (1 : Int32)), .val (.int l1), .val (.int (if ¬ ((((p0.toUInt32 >>> ((16 : Int32) &&& 31).toUInt32).toInt32) &&& (1 : Int32)) = (0 : Int32)) then (1 : Int32) else 0)), .val (.int l2), .val (.int (if ¬ ((((p1.toUInt32 >>> ((16 : Int32) &&& 31).toUInt32).toInt32) &&& (1 : Int32)) = (0 : Int32)) then (1 : Int32) else 0)), .val (.int l3), .val (.int (if ¬ ((((p2.toUInt32 >>> ((16 : Int32) &&& 31).toUInt32).toInt32) &&& (1 : Int32)) = (0 : Int32)) then (1 : Int32) else 0)), .val (.int (0 : Int32)), .val (.int (if (¬ ((((p1.toUInt32 >>> ((16 : Int32) &&& 31).toUInt32).toInt32) &&& (1 : Int32)) = (0 : Int32))) ∧ (¬ ((l1.toInt64) < (20000 : Int64))) then (1 : Int32) else 0)), .unset] [(.int (if (¬ ((((p1.toUInt32 >>> ((16 : Int32) &&& 31).toUInt32).toInt32) &&& (1 : Int32)) = (0 : Int32))) ∧ (¬ ((l1.toInt64) < (20000 : Int64))) then (1 : Int32) else 0)), (.int (if (0 : Int32) < (cmpValue (FP.dcmp ln11 FP.dconst0) .l) then (1 : Int32) else 0))])) (fun t k => ?_) ?_
  · show Steps p.tables e below (T14.setTop (mkF m 180 #[.val (.int p0), .val (.int p1), .val (.int p2), .val (.long q3), .second, .val (.long q4), .second, .val (.long q5), .second, .val (.ref b1), .val (.int (1 : Int32)), .val (.int l1), .val (.int (if ¬ ((((p0.toUInt32 >>> ((16 : Int32) &&& 31).toUInt32).toInt32) &&& (1 : Int32)) = (0 : Int32)) then (1 : Int32) else 0)), .val (.int l2), .val (.int (if ¬ ((((p1.toUInt32 >>> ((16 : Int32) &&& 31).toUInt32).toInt32) &&& (1 : Int32)) = (0 : Int32)) then (1 : Int32) else 0)), .val (.int l3), .val (.int (if ¬ ((((p2.toUInt32 >>> ((16 : Int32) &&& 31).toUInt32).toInt32) &&& (1 : Int32)) = (0 : Int32)) then (1 : Int32) else 0)), .val (.int (0 : Int32)), .val (.int (if (¬ ((((p1.toUInt32 >>> ((16 : Int32) &&& 31).toUInt32).toInt32) &&& (1 : Int32)) = (0 : Int32))) ∧ (¬ ((l1.toInt64) < (20000 : Int64))) then (1 : Int32) else 0)), .unset] [(.int (if (0 : Int32) < (cmpValue (FP.dcmp ln11 FP.dconst0) .l) then (1 : Int32) else 0))])) t
    refine XS.iload X14.here hx rfl (hb hby at_180) rfl ?_
    exact k
  have hc15 : ((0 : Int32) < (cmpValue (FP.dcmp ln11 FP.dconst0) .l)) ↔ ((¬ ((((p1.toUInt32 >>> ((16 : Int32) &&& 31).toUInt32).toInt32) &&& (1 : Int32)) = (0 : Int32))) ∧ (¬ ((l1.toInt64) < (20000 : Int64)))) := own_cnt2 hp_l2 hC11
  refine own_go (B := T14.setTop (mkF m 200 #[.val (.int p0), .val (.int p1), .val (.int p2), .val (.long q3), .second, .val (.long q4), .second, .val (.long q5), .second, .val (.ref b1), .val (.int (1 : Int32)), .val (.int l1), .val (.int (if ¬ ((((p0.toUInt32 >>> ((16 : Int32) &&& 31).toUInt32).toInt32) &&& (1 : Int32)) = (0 : Int32)) then (1 : Int32) else 0)), .val (.int l2), .val (.int (if ¬ ((((p1.toUInt32 >>> ((16 : Int32) &&& 31).toUInt32).toInt32) &&& (1 : Int32)) = (0 : Int32)) then (1 : Int32) else 0)), .val (.int l3), .val (.int (if ¬ ((((p2.toUInt32 >>> ((16 : Int32) &&& 31).toUInt32).toInt32) &&& (1 : Int32)) = (0 : Int32)) then (1 : Int32) else 0)), .val (.int (0 : Int32)), .val (.int (if (¬ ((((p1.toUInt32 >>> ((16 : Int32) &&& 31).toUInt32).toInt32) &&& (1 : Int32)) = (0 : Int32))) ∧ (¬ ((l1.toInt64) < (20000 : Int64))) then (1 : Int32) else 0)), .unset] [(.int (if ¬ ((((p2.toUInt32 >>> ((16 : Int32) &&& 31).toUInt32).toInt32) &&& (1 : Int32)) = (0 : Int32)) then (1 : Int32) else 0)), (.long q5), (.int l3), (.ref b1)])) (fun t k => ?_) ?_
  · show Steps p.tables e below (T14.setTop (mkF m 182 #[.val (.int p0), .val (.int p1), .val (.int p2), .val (.long q3), .second, .val (.long q4), .second, .val (.long q5), .second, .val (.ref b1), .val (.int (1 : Int32)), .val (.int l1), .val (.int (if ¬ ((((p0.toUInt32 >>> ((16 : Int32) &&& 31).toUInt32).toInt32) &&& (1 : Int32)) = (0 : Int32)) then (1 : Int32) else 0)), .val (.int l2), .val (.int (if ¬ ((((p1.toUInt32 >>> ((16 : Int32) &&& 31).toUInt32).toInt32) &&& (1 : Int32)) = (0 : Int32)) then (1 : Int32) else 0)), .val (.int l3), .val (.int (if ¬ ((((p2.toUInt32 >>> ((16 : Int32) &&& 31).toUInt32).toInt32) &&& (1 : Int32)) = (0 : Int32)) then (1 : Int32) else 0)), .val (.int (0 : Int32)), .val (.int (if (¬ ((((p1.toUInt32 >>> ((16 : Int32) &&& 31).toUInt32).toInt32) &&& (1 : Int32)) = (0 : Int32))) ∧ (¬ ((l1.toInt64) < (20000 : Int64))) then (1 : Int32) else 0)), .unset] [(.int (if (¬ ((((p1.toUInt32 >>> ((16 : Int32) &&& 31).toUInt32).toInt32) &&& (1 : Int32)) = (0 : Int32))) ∧ (¬ ((l1.toInt64) < (20000 : Int64))) then (1 : Int32) else 0)), (.int (if (0 : Int32) < (cmpValue (FP.dcmp ln11 FP.dconst0) .l) then (1 : Int32) else 0))])) t
    refine XS.icmpNo X14.here hx rfl (hb hby at_182) rfl (teq (own_bEq hc15)).2 ?_
    refine XS.iconst X14.here hx rfl (hb hby at_185) ?_
    refine XS.goto X14.here hx rfl (pc0 := 186) (pc' := 190) rfl (hb hby at_186) (by decide) (by decide) ?_
    refine XS.istore X14.here hx rfl (hb hby at_190) rfl (l' := #[.val (.int p0), .val (.int p1), .val (.int p2), .val (.long q3), .second, .val (.long q4), .second, .val (.long q5), .second, .val (.ref b1), .val (.int (1 : Int32)), .val (.int l1), .val (.int (if ¬ ((((p0.toUInt32 >>> ((16 : Int32) &&& 31).toUInt32).toInt32) &&& (1 : Int32)) = (0 : Int32)) then (1 : Int32) else 0)), .val (.int l2), .val (.int (if ¬ ((((p1.toUInt32 >>> ((16 : Int32) &&& 31).toUInt32).toInt32) &&& (1 : Int32)) = (0 : Int32)) then (1 : Int32) else 0)), .val (.int l3), .val (.int (if ¬ ((((p2.toUInt32 >>> ((16 : Int32) &&& 31).toUInt32).toInt32) &&& (1 : Int32)) = (0 : Int32)) then (1 : Int32) else 0)), .val (.int (0 : Int32)), .val (.int (if (¬ ((((p1.toUInt32 >>> ((16 : Int32) &&& 31).toUInt32).toInt32) &&& (1 : Int32)) = (0 : Int32))) ∧ (¬ ((l1.toInt64) < (20000 : Int64))) then (1 : Int32) else 0)), .unset]) rfl ?_
    show Steps p.tables e below (T14.setTop (mkF m 192 #[.val (.int p0), .val (.int p1), .val (.int p2), .val (.long q3), .second, .val (.long q4), .second, .val (.long q5), .second, .val (.ref b1), .val (.int (1 : Int32)), .val (.int l1), .val (.int (if ¬ ((((p0.toUInt32 >>> ((16 : Int32) &&& 31).toUInt32).toInt32) &&& (1 : Int32)) = (0 : Int32)) then (1 : Int32) else 0)), .val (.int l2), .val (.int (if ¬ ((((p1.toUInt32 >>> ((16 : Int32) &&& 31).toUInt32).toInt32) &&& (1 : Int32)) = (0 : Int32)) then (1 : Int32) else 0)), .val (.int l3), .val (.int (if ¬ ((((p2.toUInt32 >>> ((16 : Int32) &&& 31).toUInt32).toInt32) &&& (1 : Int32)) = (0 : Int32)) then (1 : Int32) else 0)), .val (.int (0 : Int32)), .val (.int (if (¬ ((((p1.toUInt32 >>> ((16 : Int32) &&& 31).toUInt32).toInt32) &&& (1 : Int32)) = (0 : Int32))) ∧ (¬ ((l1.toInt64) < (20000 : Int64))) then (1 : Int32) else 0)), .unset] [])) t
    refine XS.aload X14.here hx rfl (hb hby at_192) rfl rfl ?_
    refine XS.iload X14.here hx rfl (hb hby at_194) rfl ?_
    refine XS.lload X14.here hx rfl (hb hby at_196) rfl ?_
    refine XS.iload X14.here hx rfl (hb hby at_198) rfl ?_
    exact k
  obtain ⟨cq16, kq16, q16a, q16b, q16c⟩ := isOf hZ e14 f11_0
  obtain ⟨_, _, ⟨T16, L16, k16, n16⟩, -, X16, ⟨Lc16, hQ16, l16, y16, z16⟩, st16⟩ := X14.virtualBack hx (y := (⟨"com/example/nimble_trace/nimbletrace/TextCost", "add", "(IJZ)V"⟩ : MethodName)) (z := (⟨"com/example/nimble_trace/nimbletrace/TextCost", "add", "(IJZ)V"⟩ : MethodName)) hown (mvT hZ (hw _ (List.mem_of_getElem? (i := 22) rfl))) (mvT hZ (hw _ (List.mem_of_getElem? (i := 23) rfl))) (notFace_of_selects (args := #[]) (mvT hZ (hw _ (List.mem_of_getElem? (i := 25) rfl)))) (mvT hZ (hw _ (List.mem_of_getElem? (i := 25) rfl))) (mvT hZ (hw _ (List.mem_of_getElem? (i := 24) rfl))) (by decide) (backOf (W := 0) (rma l Z a0 hw [] b1 l3 q5 (if ¬ ((((p2.toUInt32 >>> ((16 : Int32) &&& 31).toUInt32).toInt32) &&& (1 : Int32)) = (0 : Int32)) then (1 : Int32) else 0) ((l1.toInt64) + (l2.toInt64)) lp11 ln11 nn11 1098 T11.heap n0 (Nat.le_trans Z0 K11.1) f11_0 g_b1 f11_1 f11_4 f11_2 f11_3 h_l3 (by decide) (by decide) mN11 mL11 (own_linesB h_l2 hC11)) hZ (hw _ (List.mem_of_getElem? (i := 26) rfl)) (hw _ (List.mem_of_getElem? (i := 2) rfl)) (by decide) (by decide)) q16a q16c (g := (mkF m 200 #[.val (.int p0), .val (.int p1), .val (.int p2), .val (.long q3), .second, .val (.long q4), .second, .val (.long q5), .second, .val (.ref b1), .val (.int (1 : Int32)), .val (.int l1), .val (.int (if ¬ ((((p0.toUInt32 >>> ((16 : Int32) &&& 31).toUInt32).toInt32) &&& (1 : Int32)) = (0 : Int32)) then (1 : Int32) else 0)), .val (.int l2), .val (.int (if ¬ ((((p1.toUInt32 >>> ((16 : Int32) &&& 31).toUInt32).toInt32) &&& (1 : Int32)) = (0 : Int32)) then (1 : Int32) else 0)), .val (.int l3), .val (.int (if ¬ ((((p2.toUInt32 >>> ((16 : Int32) &&& 31).toUInt32).toInt32) &&& (1 : Int32)) = (0 : Int32)) then (1 : Int32) else 0)), .val (.int (0 : Int32)), .val (.int (if (¬ ((((p1.toUInt32 >>> ((16 : Int32) &&& 31).toUInt32).toInt32) &&& (1 : Int32)) = (0 : Int32))) ∧ (¬ ((l1.toInt64) < (20000 : Int64))) then (1 : Int32) else 0)), .unset] [(.int (if ¬ ((((p2.toUInt32 >>> ((16 : Int32) &&& 31).toUInt32).toInt32) &&& (1 : Int32)) = (0 : Int32)) then (1 : Int32) else 0)), (.long q5), (.int l3), (.ref b1)])) rfl (by rw [hml]; rfl) (Steps.refl _) (argsL := [(.int l3), (.long q5), (.int (if ¬ ((((p2.toUInt32 >>> ((16 : Int32) &&& 31).toUInt32).toInt32) &&& (1 : Int32)) = (0 : Int32)) then (1 : Int32) else 0))]) (rest := []) (lenOf pd0_2 rfl) rfl (by show 2 * 0 + _ ≤ _; exact Nat.le_of_eq rfl) (hb hby at_200) (fun _ _ => ⟨rfl, e14, (by decide : 1 + 0 ≤ _), (by decide : 5 + 0 ≤ _)⟩)
  dsimp only [Pt.U, Pt.locs, Pt.cells, Pt.slots] at X16 l16 y16 z16 st16 hQ16
  subst y16 z16
  have X16 : Stand p l e room_1 s m #[(.int p0), (.int p1), (.int p2), (.long q3), (.long q4), (.long q5)] below meth c T16 _ 1 5 := X16
  obtain ⟨rfl, N16q, Kq16, f16_0, f16_1, ln16, nn16, lp16, f16_2, f16_3, f16_4, mN16, mL16, hC16⟩ := hQ16
  have N16 : Fr n0 L16 := by rw [l16]; exact Fr.app N14 N16q
  have K16 : Keep h0 T16.heap [] := K11.trans Kq16 (allS (Or.inr sz_b1) all0)
  refine own_go (fun _ k => st16.trans k) ?_
  show own_Fin p.tables e below (T16.setTop (mkF m 203 #[.val (.int p0), .val (.int p1), .val (.int p2), .val (.long q3), .second, .val (.long q4), .second, .val (.long q5), .second, .val (.ref b1), .val (.int (1 : Int32)), .val (.int l1), .val (.int (if ¬ ((((p0.toUInt32 >>> ((16 : Int32) &&& 31).toUInt32).toInt32) &&& (1 : Int32)) = (0 : Int32)) then (1 : Int32) else 0)), .val (.int l2), .val (.int (if ¬ ((((p1.toUInt32 >>> ((16 : Int32) &&& 31).toUInt32).toInt32) &&& (1 : Int32)) = (0 : Int32)) then (1 : Int32) else 0)), .val (.int l3), .val (.int (if ¬ ((((p2.toUInt32 >>> ((16 : Int32) &&& 31).toUInt32).toInt32) &&& (1 : Int32)) = (0 : Int32)) then (1 : Int32) else 0)), .val (.int (0 : Int32)), .val (.int (if (¬ ((((p1.toUInt32 >>> ((16 : Int32) &&& 31).toUInt32).toInt32) &&& (1 : Int32)) = (0 : Int32))) ∧ (¬ ((l1.toInt64) < (20000 : Int64))) then (1 : Int32) else 0)), .unset] [])) _
  refine own_go (B := T16.setTop (mkF m 205 #[.val (.int p0), .val (.int p1), .val (.int p2), .val (.long q3), .second, .val (.long q4), .second, .val (.long q5), .second, .val (.ref b1), .val (.int (1 : Int32)), .val (.int l1), .val (.int (if ¬ ((((p0.toUInt32 >>> ((16 : Int32) &&& 31).toUInt32).toInt32) &&& (1 : Int32)) = (0 : Int32)) then (1 : Int32) else 0)), .val (.int l2), .val (.int (if ¬ ((((p1.toUInt32 >>> ((16 : Int32) &&& 31).toUInt32).toInt32) &&& (1 : Int32)) = (0 : Int32)) then (1 : Int32) else 0)), .val (.int l3), .val (.int (if ¬ ((((p2.toUInt32 >>> ((16 : Int32) &&& 31).toUInt32).toInt32) &&& (1 : Int32)) = (0 : Int32)) then (1 : Int32) else 0)), .val (.int (0 : Int32)), .val (.int (if (¬ ((((p1.toUInt32 >>> ((16 : Int32) &&& 31).toUInt32).toInt32) &&& (1 : Int32)) = (0 : Int32))) ∧ (¬ ((l1.toInt64) < (20000 : Int64))) then (1 : Int32) else 0)), .unset] [(.int (if (¬ ((((p1.toUInt32 >>> ((16 : Int32) &&& 31).toUInt32).toInt32) &&& (1 : Int32)) = (0 : Int32))) ∧ (¬ ((l1.toInt64) < (20000 : Int64))) then (1 : Int32) else 0))])) (fun t k => ?_) ?_
  · show Steps p.tables e below (T16.setTop (mkF m 203 #[.val (.int p0), .val (.int p1), .val (.int p2), .val (.long q3), .second, .val (.long q4), .second, .val (.long q5), .second, .val (.ref b1), .val (.int (1 : Int32)), .val (.int l1), .val (.int (if ¬ ((((p0.toUInt32 >>> ((16 : Int32) &&& 31).toUInt32).toInt32) &&& (1 : Int32)) = (0 : Int32)) then (1 : Int32) else 0)), .val (.int l2), .val (.int (if ¬ ((((p1.toUInt32 >>> ((16 : Int32) &&& 31).toUInt32).toInt32) &&& (1 : Int32)) = (0 : Int32)) then (1 : Int32) else 0)), .val (.int l3), .val (.int (if ¬ ((((p2.toUInt32 >>> ((16 : Int32) &&& 31).toUInt32).toInt32) &&& (1 : Int32)) = (0 : Int32)) then (1 : Int32) else 0)), .val (.int (0 : Int32)), .val (.int (if (¬ ((((p1.toUInt32 >>> ((16 : Int32) &&& 31).toUInt32).toInt32) &&& (1 : Int32)) = (0 : Int32))) ∧ (¬ ((l1.toInt64) < (20000 : Int64))) then (1 : Int32) else 0)), .unset] [])) t
    refine XS.iload X16.here hx rfl (hb hby at_203) rfl ?_
    exact k
  refine own_go (B := T16.setTop (mkF m 232 #[.val (.int p0), .val (.int p1), .val (.int p2), .val (.long q3), .second, .val (.long q4), .second, .val (.long q5), .second, .val (.ref b1), .val (.int (1 : Int32)), .val (.int l1), .val (.int (if ¬ ((((p0.toUInt32 >>> ((16 : Int32) &&& 31).toUInt32).toInt32) &&& (1 : Int32)) = (0 : Int32)) then (1 : Int32) else 0)), .val (.int l2), .val (.int (if ¬ ((((p1.toUInt32 >>> ((16 : Int32) &&& 31).toUInt32).toInt32) &&& (1 : Int32)) = (0 : Int32)) then (1 : Int32) else 0)), .val (.int l3), .val (.int (if ¬ ((((p2.toUInt32 >>> ((16 : Int32) &&& 31).toUInt32).toInt32) &&& (1 : Int32)) = (0 : Int32)) then (1 : Int32) else 0)), .val (.int (0 : Int32)), .val (.int (if (¬ ((((p1.toUInt32 >>> ((16 : Int32) &&& 31).toUInt32).toInt32) &&& (1 : Int32)) = (0 : Int32))) ∧ (¬ ((l1.toInt64) < (20000 : Int64))) then (1 : Int32) else 0)), .unset] [(.int (if ((¬ ((((p1.toUInt32 >>> ((16 : Int32) &&& 31).toUInt32).toInt32) &&& (1 : Int32)) = (0 : Int32))) ∧ (¬ ((l1.toInt64) < (20000 : Int64)))) ∨ ((¬ ((((p2.toUInt32 >>> ((16 : Int32) &&& 31).toUInt32).toInt32) &&& (1 : Int32)) = (0 : Int32))) ∧ (¬ (((l1.toInt64) + (l2.toInt64)) < (20000 : Int64)))) then (1 : Int32) else 0))])) (fun t k => ?_) ?_
  · skip
    show Steps p.tables e below (T16.setTop (mkF m 205 #[.val (.int p0), .val (.int p1), .val (.int p2), .val (.long q3), .second, .val (.long q4), .second, .val (.long q5), .second, .val (.ref b1), .val (.int (1 : Int32)), .val (.int l1), .val (.int (if ¬ ((((p0.toUInt32 >>> ((16 : Int32) &&& 31).toUInt32).toInt32) &&& (1 : Int32)) = (0 : Int32)) then (1 : Int32) else 0)), .val (.int l2), .val (.int (if ¬ ((((p1.toUInt32 >>> ((16 : Int32) &&& 31).toUInt32).toInt32) &&& (1 : Int32)) = (0 : Int32)) then (1 : Int32) else 0)), .val (.int l3), .val (.int (if ¬ ((((p2.toUInt32 >>> ((16 : Int32) &&& 31).toUInt32).toInt32) &&& (1 : Int32)) = (0 : Int32)) then (1 : Int32) else 0)), .val (.int (0 : Int32)), .val (.int (if (¬ ((((p1.toUInt32 >>> ((16 : Int32) &&& 31).toUInt32).toInt32) &&& (1 : Int32)) = (0 : Int32))) ∧ (¬ ((l1.toInt64) < (20000 : Int64))) then (1 : Int32) else 0)), .unset] [(.int (if (¬ ((((p1.toUInt32 >>> ((16 : Int32) &&& 31).toUInt32).toInt32) &&& (1 : Int32)) = (0 : Int32))) ∧ (¬ ((l1.toInt64) < (20000 : Int64))) then (1 : Int32) else 0))])) t
    by_cases hd17 : (¬ ((((p1.toUInt32 >>> ((16 : Int32) &&& 31).toUInt32).toInt32) &&& (1 : Int32)) = (0 : Int32))) ∧ (¬ ((l1.toInt64) < (20000 : Int64)))
    · refine XS.ifYes X16.here hx rfl (pc0 := 205) (pc' := 227) rfl (hb hby at_205) rfl (own_bneT hd17) (by decide) (by decide) ?_
      show Steps p.tables e below (T16.setTop (mkF m 227 #[.val (.int p0), .val (.int p1), .val (.int p2), .val (.long q3), .second, .val (.long q4), .second, .val (.long q5), .second, .val (.ref b1), .val (.int (1 : Int32)), .val (.int l1), .val (.int (if ¬ ((((p0.toUInt32 >>> ((16 : Int32) &&& 31).toUInt32).toInt32) &&& (1 : Int32)) = (0 : Int32)) then (1 : Int32) else 0)), .val (.int l2), .val (.int (if ¬ ((((p1.toUInt32 >>> ((16 : Int32) &&& 31).toUInt32).toInt32) &&& (1 : Int32)) = (0 : Int32)) then (1 : Int32) else 0)), .val (.int l3), .val (.int (if ¬ ((((p2.toUInt32 >>> ((16 : Int32) &&& 31).toUInt32).toInt32) &&& (1 : Int32)) = (0 : Int32)) then (1 : Int32) else 0)), .val (.int (0 : Int32)), .val (.int (if (¬ ((((p1.toUInt32 >>> ((16 : Int32) &&& 31).toUInt32).toInt32) &&& (1 : Int32)) = (0 : Int32))) ∧ (¬ ((l1.toInt64) < (20000 : Int64))) then (1 : Int32) else 0)), .unset] [])) t
      refine XS.iconst X16.here hx rfl (hb hby at_227) ?_
      show Steps p.tables e below (T16.setTop (mkF m 228 #[.val (.int p0), .val (.int p1), .val (.int p2), .val (.long q3), .second, .val (.long q4), .second, .val (.long q5), .second, .val (.ref b1), .val (.int (1 : Int32)), .val (.int l1), .val (.int (if ¬ ((((p0.toUInt32 >>> ((16 : Int32) &&& 31).toUInt32).toInt32) &&& (1 : Int32)) = (0 : Int32)) then (1 : Int32) else 0)), .val (.int l2), .val (.int (if ¬ ((((p1.toUInt32 >>> ((16 : Int32) &&& 31).toUInt32).toInt32) &&& (1 : Int32)) = (0 : Int32)) then (1 : Int32) else 0)), .val (.int l3), .val (.int (if ¬ ((((p2.toUInt32 >>> ((16 : Int32) &&& 31).toUInt32).toInt32) &&& (1 : Int32)) = (0 : Int32)) then (1 : Int32) else 0)), .val (.int (0 : Int32)), .val (.int (if (¬ ((((p1.toUInt32 >>> ((16 : Int32) &&& 31).toUInt32).toInt32) &&& (1 : Int32)) = (0 : Int32))) ∧ (¬ ((l1.toInt64) < (20000 : Int64))) then (1 : Int32) else 0)), .unset] [(.int (1 : Int32))])) t
      refine XS.goto X16.here hx rfl (pc0 := 228) (pc' := 232) rfl (hb hby at_228) (by decide) (by decide) ?_
      show Steps p.tables e below (T16.setTop (mkF m 232 #[.val (.int p0), .val (.int p1), .val (.int p2), .val (.long q3), .second, .val (.long q4), .second, .val (.long q5), .second, .val (.ref b1), .val (.int (1 : Int32)), .val (.int l1), .val (.int (if ¬ ((((p0.toUInt32 >>> ((16 : Int32) &&& 31).toUInt32).toInt32) &&& (1 : Int32)) = (0 : Int32)) then (1 : Int32) else 0)), .val (.int l2), .val (.int (if ¬ ((((p1.toUInt32 >>> ((16 : Int32) &&& 31).toUInt32).toInt32) &&& (1 : Int32)) = (0 : Int32)) then (1 : Int32) else 0)), .val (.int l3), .val (.int (if ¬ ((((p2.toUInt32 >>> ((16 : Int32) &&& 31).toUInt32).toInt32) &&& (1 : Int32)) = (0 : Int32)) then (1 : Int32) else 0)), .val (.int (0 : Int32)), .val (.int (if (¬ ((((p1.toUInt32 >>> ((16 : Int32) &&& 31).toUInt32).toInt32) &&& (1 : Int32)) = (0 : Int32))) ∧ (¬ ((l1.toInt64) < (20000 : Int64))) then (1 : Int32) else 0)), .unset] [(.int (1 : Int32))])) t
      exact (congrArg (fun z => Steps p.tables e below (T16.setTop (mkF m 232 #[.val (.int p0), .val (.int p1), .val (.int p2), .val (.long q3), .second, .val (.long q4), .second, .val (.long q5), .second, .val (.ref b1), .val (.int (1 : Int32)), .val (.int l1), .val (.int (if ¬ ((((p0.toUInt32 >>> ((16 : Int32) &&& 31).toUInt32).toInt32) &&& (1 : Int32)) = (0 : Int32)) then (1 : Int32) else 0)), .val (.int l2), .val (.int (if ¬ ((((p1.toUInt32 >>> ((16 : Int32) &&& 31).toUInt32).toInt32) &&& (1 : Int32)) = (0 : Int32)) then (1 : Int32) else 0)), .val (.int l3), .val (.int (if ¬ ((((p2.toUInt32 >>> ((16 : Int32) &&& 31).toUInt32).toInt32) &&& (1 : Int32)) = (0 : Int32)) then (1 : Int32) else 0)), .val (.int (0 : Int32)), .val (.int (if (¬ ((((p1.toUInt32 >>> ((16 : Int32) &&& 31).toUInt32).toInt32) &&& (1 : Int32)) = (0 : Int32))) ∧ (¬ ((l1.toInt64) < (20000 : Int64))) then (1 : Int32) else 0)), .unset] [(.int z)])) t) (if_pos (Or.inl hd17))).mp k
    · refine XS.ifNo X16.here hx rfl (hb hby at_205) rfl (own_bneF hd17) ?_
      show Steps p.tables e below (T16.setTop (mkF m 208 #[.val (.int p0), .val (.int p1), .val (.int p2), .val (.long q3), .second, .val (.long q4), .second, .val (.long q5), .second, .val (.ref b1), .val (.int (1 : Int32)), .val (.int l1), .val (.int (if ¬ ((((p0.toUInt32 >>> ((16 : Int32) &&& 31).toUInt32).toInt32) &&& (1 : Int32)) = (0 : Int32)) then (1 : Int32) else 0)), .val (.int l2), .val (.int (if ¬ ((((p1.toUInt32 >>> ((16 : Int32) &&& 31).toUInt32).toInt32) &&& (1 : Int32)) = (0 : Int32)) then (1 : Int32) else 0)), .val (.int l3), .val (.int (if ¬ ((((p2.toUInt32 >>> ((16 : Int32) &&& 31).toUInt32).toInt32) &&& (1 : Int32)) = (0 : Int32)) then (1 : Int32) else 0)), .val (.int (0 : Int32)), .val (.int (if (¬ ((((p1.toUInt32 >>> ((16 : Int32) &&& 31).toUInt32).toInt32) &&& (1 : Int32)) = (0 : Int32))) ∧ (¬ ((l1.toInt64) < (20000 : Int64))) then (1 : Int32) else 0)), .unset] [])) t
      refine XS.iload X16.here hx rfl (hb hby at_208) rfl ?_
      show Steps p.tables e below (T16.setTop (mkF m 210 #[.val (.int p0), .val (.int p1), .val (.int p2), .val (.long q3), .second, .val (.long q4), .second, .val (.long q5), .second, .val (.ref b1), .val (.int (1 : Int32)), .val (.int l1), .val (.int (if ¬ ((((p0.toUInt32 >>> ((16 : Int32) &&& 31).toUInt32).toInt32) &&& (1 : Int32)) = (0 : Int32)) then (1 : Int32) else 0)), .val (.int l2), .val (.int (if ¬ ((((p1.toUInt32 >>> ((16 : Int32) &&& 31).toUInt32).toInt32) &&& (1 : Int32)) = (0 : Int32)) then (1 : Int32) else 0)), .val (.int l3), .val (.int (if ¬ ((((p2.toUInt32 >>> ((16 : Int32) &&& 31).toUInt32).toInt32) &&& (1 : Int32)) = (0 : Int32)) then (1 : Int32) else 0)), .val (.int (0 : Int32)), .val (.int (if (¬ ((((p1.toUInt32 >>> ((16 : Int32) &&& 31).toUInt32).toInt32) &&& (1 : Int32)) = (0 : Int32))) ∧ (¬ ((l1.toInt64) < (20000 : Int64))) then (1 : Int32) else 0)), .unset] [(.int (if ¬ ((((p2.toUInt32 >>> ((16 : Int32) &&& 31).toUInt32).toInt32) &&& (1 : Int32)) = (0 : Int32)) then (1 : Int32) else 0))])) t
      by_cases hd18 : ¬ ((((p2.toUInt32 >>> ((16 : Int32) &&& 31).toUInt32).toInt32) &&& (1 : Int32)) = (0 : Int32))
      · refine XS.ifNo X16.here hx rfl (hb hby at_210) rfl (own_beqF hd18) ?_
        show Steps p.tables e below (T16.setTop (mkF m 213 #[.val (.int p0), .val (.int p1), .val (.int p2), .val (.long q3), .second, .val (.long q4), .second, .val (.long q5), .second, .val (.ref b1), .val (.int (1 : Int32)), .val (.int l1), .val (.int (if ¬ ((((p0.toUInt32 >>> ((16 : Int32) &&& 31).toUInt32).toInt32) &&& (1 : Int32)) = (0 : Int32)) then (1 : Int32) else 0)), .val (.int l2), .val (.int (if ¬ ((((p1.toUInt32 >>> ((16 : Int32) &&& 31).toUInt32).toInt32) &&& (1 : Int32)) = (0 : Int32)) then (1 : Int32) else 0)), .val (.int l3), .val (.int (if ¬ ((((p2.toUInt32 >>> ((16 : Int32) &&& 31).toUInt32).toInt32) &&& (1 : Int32)) = (0 : Int32)) then (1 : Int32) else 0)), .val (.int (0 : Int32)), .val (.int (if (¬ ((((p1.toUInt32 >>> ((16 : Int32) &&& 31).toUInt32).toInt32) &&& (1 : Int32)) = (0 : Int32))) ∧ (¬ ((l1.toInt64) < (20000 : Int64))) then (1 : Int32) else 0)), .unset] [])) t
        refine XS.iload X16.here hx rfl (hb hby at_213) rfl ?_
        show Steps p.tables e below (T16.setTop (mkF m 215 #[.val (.int p0), .val (.int p1), .val (.int p2), .val (.long q3), .second, .val (.long q4), .second, .val (.long q5), .second, .val (.ref b1), .val (.int (1 : Int32)), .val (.int l1), .val (.int (if ¬ ((((p0.toUInt32 >>> ((16 : Int32) &&& 31).toUInt32).toInt32) &&& (1 : Int32)) = (0 : Int32)) then (1 : Int32) else 0)), .val (.int l2), .val (.int (if ¬ ((((p1.toUInt32 >>> ((16 : Int32) &&& 31).toUInt32).toInt32) &&& (1 : Int32)) = (0 : Int32)) then (1 : Int32) else 0)), .val (.int l3), .val (.int (if ¬ ((((p2.toUInt32 >>> ((16 : Int32) &&& 31).toUInt32).toInt32) &&& (1 : Int32)) = (0 : Int32)) then (1 : Int32) else 0)), .val (.int (0 : Int32)), .val (.int (if (¬ ((((p1.toUInt32 >>> ((16 : Int32) &&& 31).toUInt32).toInt32) &&& (1 : Int32)) = (0 : Int32))) ∧ (¬ ((l1.toInt64) < (20000 : Int64))) then (1 : Int32) else 0)), .unset] [(.int l1)])) t
        refine XS.i2l X16.here hx rfl (hb hby at_215) rfl ?_
        show Steps p.tables e below (T16.setTop (mkF m 216 #[.val (.int p0), .val (.int p1), .val (.int p2), .val (.long q3), .second, .val (.long q4), .second, .val (.long q5), .second, .val (.ref b1), .val (.int (1 : Int32)), .val (.int l1), .val (.int (if ¬ ((((p0.toUInt32 >>> ((16 : Int32) &&& 31).toUInt32).toInt32) &&& (1 : Int32)) = (0 : Int32)) then (1 : Int32) else 0)), .val (.int l2), .val (.int (if ¬ ((((p1.toUInt32 >>> ((16 : Int32) &&& 31).toUInt32).toInt32) &&& (1 : Int32)) = (0 : Int32)) then (1 : Int32) else 0)), .val (.int l3), .val (.int (if ¬ ((((p2.toUInt32 >>> ((16 : Int32) &&& 31).toUInt32).toInt32) &&& (1 : Int32)) = (0 : Int32)) then (1 : Int32) else 0)), .val (.int (0 : Int32)), .val (.int (if (¬ ((((p1.toUInt32 >>> ((16 : Int32) &&& 31).toUInt32).toInt32) &&& (1 : Int32)) = (0 : Int32))) ∧ (¬ ((l1.toInt64) < (20000 : Int64))) then (1 : Int32) else 0)), .unset] [(.long (l1.toInt64))])) t
        refine XS.iload X16.here hx rfl (hb hby at_216) rfl ?_
        show Steps p.tables e below (T16.setTop (mkF m 218 #[.val (.int p0), .val (.int p1), .val (.int p2), .val (.long q3), .second, .val (.long q4), .second, .val (.long q5), .second, .val (.ref b1), .val (.int (1 : Int32)), .val (.int l1), .val (.int (if ¬ ((((p0.toUInt32 >>> ((16 : Int32) &&& 31).toUInt32).toInt32) &&& (1 : Int32)) = (0 : Int32)) then (1 : Int32) else 0)), .val (.int l2), .val (.int (if ¬ ((((p1.toUInt32 >>> ((16 : Int32) &&& 31).toUInt32).toInt32) &&& (1 : Int32)) = (0 : Int32)) then (1 : Int32) else 0)), .val (.int l3), .val (.int (if ¬ ((((p2.toUInt32 >>> ((16 : Int32) &&& 31).toUInt32).toInt32) &&& (1 : Int32)) = (0 : Int32)) then (1 : Int32) else 0)), .val (.int (0 : Int32)), .val (.int (if (¬ ((((p1.toUInt32 >>> ((16 : Int32) &&& 31).toUInt32).toInt32) &&& (1 : Int32)) = (0 : Int32))) ∧ (¬ ((l1.toInt64) < (20000 : Int64))) then (1 : Int32) else 0)), .unset] [(.int l2), (.long (l1.toInt64))])) t
        refine XS.i2l X16.here hx rfl (hb hby at_218) rfl ?_
        show Steps p.tables e below (T16.setTop (mkF m 219 #[.val (.int p0), .val (.int p1), .val (.int p2), .val (.long q3), .second, .val (.long q4), .second, .val (.long q5), .second, .val (.ref b1), .val (.int (1 : Int32)), .val (.int l1), .val (.int (if ¬ ((((p0.toUInt32 >>> ((16 : Int32) &&& 31).toUInt32).toInt32) &&& (1 : Int32)) = (0 : Int32)) then (1 : Int32) else 0)), .val (.int l2), .val (.int (if ¬ ((((p1.toUInt32 >>> ((16 : Int32) &&& 31).toUInt32).toInt32) &&& (1 : Int32)) = (0 : Int32)) then (1 : Int32) else 0)), .val (.int l3), .val (.int (if ¬ ((((p2.toUInt32 >>> ((16 : Int32) &&& 31).toUInt32).toInt32) &&& (1 : Int32)) = (0 : Int32)) then (1 : Int32) else 0)), .val (.int (0 : Int32)), .val (.int (if (¬ ((((p1.toUInt32 >>> ((16 : Int32) &&& 31).toUInt32).toInt32) &&& (1 : Int32)) = (0 : Int32))) ∧ (¬ ((l1.toInt64) < (20000 : Int64))) then (1 : Int32) else 0)), .unset] [(.long (l2.toInt64)), (.long (l1.toInt64))])) t
        refine XS.ladd X16.here hx rfl (hb hby at_219) rfl ?_
        show Steps p.tables e below (T16.setTop (mkF m 220 #[.val (.int p0), .val (.int p1), .val (.int p2), .val (.long q3), .second, .val (.long q4), .second, .val (.long q5), .second, .val (.ref b1), .val (.int (1 : Int32)), .val (.int l1), .val (.int (if ¬ ((((p0.toUInt32 >>> ((16 : Int32) &&& 31).toUInt32).toInt32) &&& (1 : Int32)) = (0 : Int32)) then (1 : Int32) else 0)), .val (.int l2), .val (.int (if ¬ ((((p1.toUInt32 >>> ((16 : Int32) &&& 31).toUInt32).toInt32) &&& (1 : Int32)) = (0 : Int32)) then (1 : Int32) else 0)), .val (.int l3), .val (.int (if ¬ ((((p2.toUInt32 >>> ((16 : Int32) &&& 31).toUInt32).toInt32) &&& (1 : Int32)) = (0 : Int32)) then (1 : Int32) else 0)), .val (.int (0 : Int32)), .val (.int (if (¬ ((((p1.toUInt32 >>> ((16 : Int32) &&& 31).toUInt32).toInt32) &&& (1 : Int32)) = (0 : Int32))) ∧ (¬ ((l1.toInt64) < (20000 : Int64))) then (1 : Int32) else 0)), .unset] [(.long ((l1.toInt64) + (l2.toInt64)))])) t
        refine X16.ldc2J hx hown (mvT hZ (hw _ (List.mem_of_getElem? (i := 42) rfl))) rfl (hb hby at_220) ?_
        show Steps p.tables e below (T16.setTop (mkF m 223 #[.val (.int p0), .val (.int p1), .val (.int p2), .val (.long q3), .second, .val (.long q4), .second, .val (.long q5), .second, .val (.ref b1), .val (.int (1 : Int32)), .val (.int l1), .val (.int (if ¬ ((((p0.toUInt32 >>> ((16 : Int32) &&& 31).toUInt32).toInt32) &&& (1 : Int32)) = (0 : Int32)) then (1 : Int32) else 0)), .val (.int l2), .val (.int (if ¬ ((((p1.toUInt32 >>> ((16 : Int32) &&& 31).toUInt32).toInt32) &&& (1 : Int32)) = (0 : Int32)) then (1 : Int32) else 0)), .val (.int l3), .val (.int (if ¬ ((((p2.toUInt32 >>> ((16 : Int32) &&& 31).toUInt32).toInt32) &&& (1 : Int32)) = (0 : Int32)) then (1 : Int32) else 0)), .val (.int (0 : Int32)), .val (.int (if (¬ ((((p1.toUInt32 >>> ((16 : Int32) &&& 31).toUInt32).toInt32) &&& (1 : Int32)) = (0 : Int32))) ∧ (¬ ((l1.toInt64) < (20000 : Int64))) then (1 : Int32) else 0)), .unset] [(.long (20000 : Int64)), (.long ((l1.toInt64) + (l2.toInt64)))])) t
        refine XS.lcmp X16.here hx rfl (hb hby at_223) rfl ?_
        show Steps p.tables e below (T16.setTop (mkF m 224 #[.val (.int p0), .val (.int p1), .val (.int p2), .val (.long q3), .second, .val (.long q4), .second, .val (.long q5), .second, .val (.ref b1), .val (.int (1 : Int32)), .val (.int l1), .val (.int (if ¬ ((((p0.toUInt32 >>> ((16 : Int32) &&& 31).toUInt32).toInt32) &&& (1 : Int32)) = (0 : Int32)) then (1 : Int32) else 0)), .val (.int l2), .val (.int (if ¬ ((((p1.toUInt32 >>> ((16 : Int32) &&& 31).toUInt32).toInt32) &&& (1 : Int32)) = (0 : Int32)) then (1 : Int32) else 0)), .val (.int l3), .val (.int (if ¬ ((((p2.toUInt32 >>> ((16 : Int32) &&& 31).toUInt32).toInt32) &&& (1 : Int32)) = (0 : Int32)) then (1 : Int32) else 0)), .val (.int (0 : Int32)), .val (.int (if (¬ ((((p1.toUInt32 >>> ((16 : Int32) &&& 31).toUInt32).toInt32) &&& (1 : Int32)) = (0 : Int32))) ∧ (¬ ((l1.toInt64) < (20000 : Int64))) then (1 : Int32) else 0)), .unset] [(.int (lcmpW ((l1.toInt64) + (l2.toInt64)) (20000 : Int64)))])) t
        by_cases hd19 : ((l1.toInt64) + (l2.toInt64)) < (20000 : Int64)
        · refine XS.ifYes X16.here hx rfl (pc0 := 224) (pc' := 231) rfl (hb hby at_224) rfl ((if0 _ _).trans (tlt ((lw_lt _ _).mpr hd19)).1) (by decide) (by decide) ?_
          show Steps p.tables e below (T16.setTop (mkF m 231 #[.val (.int p0), .val (.int p1), .val (.int p2), .val (.long q3), .second, .val (.long q4), .second, .val (.long q5), .second, .val (.ref b1), .val (.int (1 : Int32)), .val (.int l1), .val (.int (if ¬ ((((p0.toUInt32 >>> ((16 : Int32) &&& 31).toUInt32).toInt32) &&& (1 : Int32)) = (0 : Int32)) then (1 : Int32) else 0)), .val (.int l2), .val (.int (if ¬ ((((p1.toUInt32 >>> ((16 : Int32) &&& 31).toUInt32).toInt32) &&& (1 : Int32)) = (0 : Int32)) then (1 : Int32) else 0)), .val (.int l3), .val (.int (if ¬ ((((p2.toUInt32 >>> ((16 : Int32) &&& 31).toUInt32).toInt32) &&& (1 : Int32)) = (0 : Int32)) then (1 : Int32) else 0)), .val (.int (0 : Int32)), .val (.int (if (¬ ((((p1.toUInt32 >>> ((16 : Int32) &&& 31).toUInt32).toInt32) &&& (1 : Int32)) = (0 : Int32))) ∧ (¬ ((l1.toInt64) < (20000 : Int64))) then (1 : Int32) else 0)), .unset] [])) t
          refine XS.iconst X16.here hx rfl (hb hby at_231) ?_
          show Steps p.tables e below (T16.setTop (mkF m 232 #[.val (.int p0), .val (.int p1), .val (.int p2), .val (.long q3), .second, .val (.long q4), .second, .val (.long q5), .second, .val (.ref b1), .val (.int (1 : Int32)), .val (.int l1), .val (.int (if ¬ ((((p0.toUInt32 >>> ((16 : Int32) &&& 31).toUInt32).toInt32) &&& (1 : Int32)) = (0 : Int32)) then (1 : Int32) else 0)), .val (.int l2), .val (.int (if ¬ ((((p1.toUInt32 >>> ((16 : Int32) &&& 31).toUInt32).toInt32) &&& (1 : Int32)) = (0 : Int32)) then (1 : Int32) else 0)), .val (.int l3), .val (.int (if ¬ ((((p2.toUInt32 >>> ((16 : Int32) &&& 31).toUInt32).toInt32) &&& (1 : Int32)) = (0 : Int32)) then (1 : Int32) else 0)), .val (.int (0 : Int32)), .val (.int (if (¬ ((((p1.toUInt32 >>> ((16 : Int32) &&& 31).toUInt32).toInt32) &&& (1 : Int32)) = (0 : Int32))) ∧ (¬ ((l1.toInt64) < (20000 : Int64))) then (1 : Int32) else 0)), .unset] [(.int (0 : Int32))])) t
          exact (congrArg (fun z => Steps p.tables e below (T16.setTop (mkF m 232 #[.val (.int p0), .val (.int p1), .val (.int p2), .val (.long q3), .second, .val (.long q4), .second, .val (.long q5), .second, .val (.ref b1), .val (.int (1 : Int32)), .val (.int l1), .val (.int (if ¬ ((((p0.toUInt32 >>> ((16 : Int32) &&& 31).toUInt32).toInt32) &&& (1 : Int32)) = (0 : Int32)) then (1 : Int32) else 0)), .val (.int l2), .val (.int (if ¬ ((((p1.toUInt32 >>> ((16 : Int32) &&& 31).toUInt32).toInt32) &&& (1 : Int32)) = (0 : Int32)) then (1 : Int32) else 0)), .val (.int l3), .val (.int (if ¬ ((((p2.toUInt32 >>> ((16 : Int32) &&& 31).toUInt32).toInt32) &&& (1 : Int32)) = (0 : Int32)) then (1 : Int32) else 0)), .val (.int (0 : Int32)), .val (.int (if (¬ ((((p1.toUInt32 >>> ((16 : Int32) &&& 31).toUInt32).toInt32) &&& (1 : Int32)) = (0 : Int32))) ∧ (¬ ((l1.toInt64) < (20000 : Int64))) then (1 : Int32) else 0)), .unset] [(.int z)])) t) (if_neg (fun q => q.elim hd17 (fun q => (fun q => q hd19) q.2)))).mp k
        · refine XS.ifNo X16.here hx rfl (hb hby at_224) rfl ((if0 _ _).trans (flt (fun q => hd19 ((lw_lt _ _).mp q))).1) ?_
          show Steps p.tables e below (T16.setTop (mkF m 227 #[.val (.int p0), .val (.int p1), .val (.int p2), .val (.long q3), .second, .val (.long q4), .second, .val (.long q5), .second, .val (.ref b1), .val (.int (1 : Int32)), .val (.int l1), .val (.int (if ¬ ((((p0.toUInt32 >>> ((16 : Int32) &&& 31).toUInt32).toInt32) &&& (1 : Int32)) = (0 : Int32)) then (1 : Int32) else 0)), .val (.int l2), .val (.int (if ¬ ((((p1.toUInt32 >>> ((16 : Int32) &&& 31).toUInt32).toInt32) &&& (1 : Int32)) = (0 : Int32)) then (1 : Int32) else 0)), .val (.int l3), .val (.int (if ¬ ((((p2.toUInt32 >>> ((16 : Int32) &&& 31).toUInt32).toInt32) &&& (1 : Int32)) = (0 : Int32)) then (1 : Int32) else 0)), .val (.int (0 : Int32)), .val (.int (if (¬ ((((p1.toUInt32 >>> ((16 : Int32) &&& 31).toUInt32).toInt32) &&& (1 : Int32)) = (0 : Int32))) ∧ (¬ ((l1.toInt64) < (20000 : Int64))) then (1 : Int32) else 0)), .unset] [])) t
          refine XS.iconst X16.here hx rfl (hb hby at_227) ?_
          show Steps p.tables e below (T16.setTop (mkF m 228 #[.val (.int p0), .val (.int p1), .val (.int p2), .val (.long q3), .second, .val (.long q4), .second, .val (.long q5), .second, .val (.ref b1), .val (.int (1 : Int32)), .val (.int l1), .val (.int (if ¬ ((((p0.toUInt32 >>> ((16 : Int32) &&& 31).toUInt32).toInt32) &&& (1 : Int32)) = (0 : Int32)) then (1 : Int32) else 0)), .val (.int l2), .val (.int (if ¬ ((((p1.toUInt32 >>> ((16 : Int32) &&& 31).toUInt32).toInt32) &&& (1 : Int32)) = (0 : Int32)) then (1 : Int32) else 0)), .val (.int l3), .val (.int (if ¬ ((((p2.toUInt32 >>> ((16 : Int32) &&& 31).toUInt32).toInt32) &&& (1 : Int32)) = (0 : Int32)) then (1 : Int32) else 0)), .val (.int (0 : Int32)), .val (.int (if (¬ ((((p1.toUInt32 >>> ((16 : Int32) &&& 31).toUInt32).toInt32) &&& (1 : Int32)) = (0 : Int32))) ∧ (¬ ((l1.toInt64) < (20000 : Int64))) then (1 : Int32) else 0)), .unset] [(.int (1 : Int32))])) t
          refine XS.goto X16.here hx rfl (pc0 := 228) (pc' := 232) rfl (hb hby at_228) (by decide) (by decide) ?_
          show Steps p.tables e below (T16.setTop (mkF m 232 #[.val (.int p0), .val (.int p1), .val (.int p2), .val (.long q3), .second, .val (.long q4), .second, .val (.long q5), .second, .val (.ref b1), .val (.int (1 : Int32)), .val (.int l1), .val (.int (if ¬ ((((p0.toUInt32 >>> ((16 : Int32) &&& 31).toUInt32).toInt32) &&& (1 : Int32)) = (0 : Int32)) then (1 : Int32) else 0)), .val (.int l2), .val (.int (if ¬ ((((p1.toUInt32 >>> ((16 : Int32) &&& 31).toUInt32).toInt32) &&& (1 : Int32)) = (0 : Int32)) then (1 : Int32) else 0)), .val (.int l3), .val (.int (if ¬ ((((p2.toUInt32 >>> ((16 : Int32) &&& 31).toUInt32).toInt32) &&& (1 : Int32)) = (0 : Int32)) then (1 : Int32) else 0)), .val (.int (0 : Int32)), .val (.int (if (¬ ((((p1.toUInt32 >>> ((16 : Int32) &&& 31).toUInt32).toInt32) &&& (1 : Int32)) = (0 : Int32))) ∧ (¬ ((l1.toInt64) < (20000 : Int64))) then (1 : Int32) else 0)), .unset] [(.int (1 : Int32))])) t
          exact (congrArg (fun z => Steps p.tables e below (T16.setTop (mkF m 232 #[.val (.int p0), .val (.int p1), .val (.int p2), .val (.long q3), .second, .val (.long q4), .second, .val (.long q5), .second, .val (.ref b1), .val (.int (1 : Int32)), .val (.int l1), .val (.int (if ¬ ((((p0.toUInt32 >>> ((16 : Int32) &&& 31).toUInt32).toInt32) &&& (1 : Int32)) = (0 : Int32)) then (1 : Int32) else 0)), .val (.int l2), .val (.int (if ¬ ((((p1.toUInt32 >>> ((16 : Int32) &&& 31).toUInt32).toInt32) &&& (1 : Int32)) = (0 : Int32)) then (1 : Int32) else 0)), .val (.int l3), .val (.int (if ¬ ((((p2.toUInt32 >>> ((16 : Int32) &&& 31).toUInt32).toInt32) &&& (1 : Int32)) = (0 : Int32)) then (1 : Int32) else 0)), .val (.int (0 : Int32)), .val (.int (if (¬ ((((p1.toUInt32 >>> ((16 : Int32) &&& 31).toUInt32).toInt32) &&& (1 : Int32)) = (0 : Int32))) ∧ (¬ ((l1.toInt64) < (20000 : Int64))) then (1 : Int32) else 0)), .unset] [(.int z)])) t) (if_pos (Or.inr ⟨hd18, hd19⟩))).mp k
      · refine XS.ifYes X16.here hx rfl (pc0 := 210) (pc' := 231) rfl (hb hby at_210) rfl (own_beqT hd18) (by decide) (by decide) ?_
        show Steps p.tables e below (T16.setTop (mkF m 231 #[.val (.int p0), .val (.int p1), .val (.int p2), .val (.long q3), .second, .val (.long q4), .second, .val (.long q5), .second, .val (.ref b1), .val (.int (1 : Int32)), .val (.int l1), .val (.int (if ¬ ((((p0.toUInt32 >>> ((16 : Int32) &&& 31).toUInt32).toInt32) &&& (1 : Int32)) = (0 : Int32)) then (1 : Int32) else 0)), .val (.int l2), .val (.int (if ¬ ((((p1.toUInt32 >>> ((16 : Int32) &&& 31).toUInt32).toInt32) &&& (1 : Int32)) = (0 : Int32)) then (1 : Int32) else 0)), .val (.int l3), .val (.int (if ¬ ((((p2.toUInt32 >>> ((16 : Int32) &&& 31).toUInt32).toInt32) &&& (1 : Int32)) = (0 : Int32)) then (1 : Int32) else 0)), .val (.int (0 : Int32)), .val (.int (if (¬ ((((p1.toUInt32 >>> ((16 : Int32) &&& 31).toUInt32).toInt32) &&& (1 : Int32)) = (0 : Int32))) ∧ (¬ ((l1.toInt64) < (20000 : Int64))) then (1 : Int32) else 0)), .unset] [])) t
        refine XS.iconst X16.here hx rfl (hb hby at_231) ?_
        show Steps p.tables e below (T16.setTop (mkF m 232 #[.val (.int p0), .val (.int p1), .val (.int p2), .val (.long q3), .second, .val (.long q4), .second, .val (.long q5), .second, .val (.ref b1), .val (.int (1 : Int32)), .val (.int l1), .val (.int (if ¬ ((((p0.toUInt32 >>> ((16 : Int32) &&& 31).toUInt32).toInt32) &&& (1 : Int32)) = (0 : Int32)) then (1 : Int32) else 0)), .val (.int l2), .val (.int (if ¬ ((((p1.toUInt32 >>> ((16 : Int32) &&& 31).toUInt32).toInt32) &&& (1 : Int32)) = (0 : Int32)) then (1 : Int32) else 0)), .val (.int l3), .val (.int (if ¬ ((((p2.toUInt32 >>> ((16 : Int32) &&& 31).toUInt32).toInt32) &&& (1 : Int32)) = (0 : Int32)) then (1 : Int32) else 0)), .val (.int (0 : Int32)), .val (.int (if (¬ ((((p1.toUInt32 >>> ((16 : Int32) &&& 31).toUInt32).toInt32) &&& (1 : Int32)) = (0 : Int32))) ∧ (¬ ((l1.toInt64) < (20000 : Int64))) then (1 : Int32) else 0)), .unset] [(.int (0 : Int32))])) t
        exact (congrArg (fun z => Steps p.tables e below (T16.setTop (mkF m 232 #[.val (.int p0), .val (.int p1), .val (.int p2), .val (.long q3), .second, .val (.long q4), .second, .val (.long q5), .second, .val (.ref b1), .val (.int (1 : Int32)), .val (.int l1), .val (.int (if ¬ ((((p0.toUInt32 >>> ((16 : Int32) &&& 31).toUInt32).toInt32) &&& (1 : Int32)) = (0 : Int32)) then (1 : Int32) else 0)), .val (.int l2), .val (.int (if ¬ ((((p1.toUInt32 >>> ((16 : Int32) &&& 31).toUInt32).toInt32) &&& (1 : Int32)) = (0 : Int32)) then (1 : Int32) else 0)), .val (.int l3), .val (.int (if ¬ ((((p2.toUInt32 >>> ((16 : Int32) &&& 31).toUInt32).toInt32) &&& (1 : Int32)) = (0 : Int32)) then (1 : Int32) else 0)), .val (.int (0 : Int32)), .val (.int (if (¬ ((((p1.toUInt32 >>> ((16 : Int32) &&& 31).toUInt32).toInt32) &&& (1 : Int32)) = (0 : Int32))) ∧ (¬ ((l1.toInt64) < (20000 : Int64))) then (1 : Int32) else 0)), .unset] [(.int z)])) t) (if_neg (fun q => q.elim hd17 (fun q => hd18 q.1)))).mp k
  refine own_go (B := T16.setTop (mkF m 241 #[.val (.int p0), .val (.int p1), .val (.int p2), .val (.long q3), .second, .val (.long q4), .second, .val (.long q5), .second, .val (.ref b1), .val (.int (1 : Int32)), .val (.int l1), .val (.int (if ¬ ((((p0.toUInt32 >>> ((16 : Int32) &&& 31).toUInt32).toInt32) &&& (1 : Int32)) = (0 : Int32)) then (1 : Int32) else 0)), .val (.int l2), .val (.int (if ¬ ((((p1.toUInt32 >>> ((16 : Int32) &&& 31).toUInt32).toInt32) &&& (1 : Int32)) = (0 : Int32)) then (1 : Int32) else 0)), .val (.int l3), .val (.int (if ¬ ((((p2.toUInt32 >>> ((16 : Int32) &&& 31).toUInt32).toInt32) &&& (1 : Int32)) = (0 : Int32)) then (1 : Int32) else 0)), .val (.int (0 : Int32)), .val (.int (if (¬ ((((p1.toUInt32 >>> ((16 : Int32) &&& 31).toUInt32).toInt32) &&& (1 : Int32)) = (0 : Int32))) ∧ (¬ ((l1.toInt64) < (20000 : Int64))) then (1 : Int32) else 0)), .val (.int (if ((¬ ((((p1.toUInt32 >>> ((16 : Int32) &&& 31).toUInt32).toInt32) &&& (1 : Int32)) = (0 : Int32))) ∧ (¬ ((l1.toInt64) < (20000 : Int64)))) ∨ ((¬ ((((p2.toUInt32 >>> ((16 : Int32) &&& 31).toUInt32).toInt32) &&& (1 : Int32)) = (0 : Int32))) ∧ (¬ (((l1.toInt64) + (l2.toInt64)) < (20000 : Int64)))) then (1 : Int32) else 0))] [(.ref b1)])) (fun t k => ?_) ?_
  · show Steps p.tables e below (T16.setTop (mkF m 232 #[.val (.int p0), .val (.int p1), .val (.int p2), .val (.long q3), .second, .val (.long q4), .second, .val (.long q5), .second, .val (.ref b1), .val (.int (1 : Int32)), .val (.int l1), .val (.int (if ¬ ((((p0.toUInt32 >>> ((16 : Int32) &&& 31).toUInt32).toInt32) &&& (1 : Int32)) = (0 : Int32)) then (1 : Int32) else 0)), .val (.int l2), .val (.int (if ¬ ((((p1.toUInt32 >>> ((16 : Int32) &&& 31).toUInt32).toInt32) &&& (1 : Int32)) = (0 : Int32)) then (1 : Int32) else 0)), .val (.int l3), .val (.int (if ¬ ((((p2.toUInt32 >>> ((16 : Int32) &&& 31).toUInt32).toInt32) &&& (1 : Int32)) = (0 : Int32)) then (1 : Int32) else 0)), .val (.int (0 : Int32)), .val (.int (if (¬ ((((p1.toUInt32 >>> ((16 : Int32) &&& 31).toUInt32).toInt32) &&& (1 : Int32)) = (0 : Int32))) ∧ (¬ ((l1.toInt64) < (20000 : Int64))) then (1 : Int32) else 0)), .unset] [(.int (if ((¬ ((((p1.toUInt32 >>> ((16 : Int32) &&& 31).toUInt32).toInt32) &&& (1 : Int32)) = (0 : Int32))) ∧ (¬ ((l1.toInt64) < (20000 : Int64)))) ∨ ((¬ ((((p2.toUInt32 >>> ((16 : Int32) &&& 31).toUInt32).toInt32) &&& (1 : Int32)) = (0 : Int32))) ∧ (¬ (((l1.toInt64) + (l2.toInt64)) < (20000 : Int64)))) then (1 : Int32) else 0))])) t
    refine XS.istore X16.here hx rfl (hb hby at_232) rfl (l' := #[.val (.int p0), .val (.int p1), .val (.int p2), .val (.long q3), .second, .val (.long q4), .second, .val (.long q5), .second, .val (.ref b1), .val (.int (1 : Int32)), .val (.int l1), .val (.int (if ¬ ((((p0.toUInt32 >>> ((16 : Int32) &&& 31).toUInt32).toInt32) &&& (1 : Int32)) = (0 : Int32)) then (1 : Int32) else 0)), .val (.int l2), .val (.int (if ¬ ((((p1.toUInt32 >>> ((16 : Int32) &&& 31).toUInt32).toInt32) &&& (1 : Int32)) = (0 : Int32)) then (1 : Int32) else 0)), .val (.int l3), .val (.int (if ¬ ((((p2.toUInt32 >>> ((16 : Int32) &&& 31).toUInt32).toInt32) &&& (1 : Int32)) = (0 : Int32)) then (1 : Int32) else 0)), .val (.int (0 : Int32)), .val (.int (if (¬ ((((p1.toUInt32 >>> ((16 : Int32) &&& 31).toUInt32).toInt32) &&& (1 : Int32)) = (0 : Int32))) ∧ (¬ ((l1.toInt64) < (20000 : Int64))) then (1 : Int32) else 0)), .val (.int (if ((¬ ((((p1.toUInt32 >>> ((16 : Int32) &&& 31).toUInt32).toInt32) &&& (1 : Int32)) = (0 : Int32))) ∧ (¬ ((l1.toInt64) < (20000 : Int64)))) ∨ ((¬ ((((p2.toUInt32 >>> ((16 : Int32) &&& 31).toUInt32).toInt32) &&& (1 : Int32)) = (0 : Int32))) ∧ (¬ (((l1.toInt64) + (l2.toInt64)) < (20000 : Int64)))) then (1 : Int32) else 0))]) rfl ?_
    refine XS.iload X16.here hx rfl (hb hby at_234) rfl ?_
    refine XS.ifNo X16.here hx rfl (hb hby at_236) rfl ((if0 _ _).trans (feq (by decide : ¬ ((1 : Int32) = (0 : Int32)))).1) ?_
    refine XS.aload X16.here hx rfl (hb hby at_239) rfl rfl ?_
    exact k
  obtain ⟨cq20, kq20, q20a, q20b, q20c⟩ := isOf hZ rfl f16_0
  obtain ⟨_, _, ⟨T20, L20, k20, n20⟩, -, X20, ⟨Lc20, hQ20, l20, y20, z20⟩, st20⟩ := X16.virtualBack hx (y := (⟨"com/example/nimble_trace/nimbletrace/TextCost", "counts", "()Z"⟩ : MethodName)) (z := (⟨"com/example/nimble_trace/nimbletrace/TextCost", "counts", "()Z"⟩ : MethodName)) hown (mvT hZ (hw _ (List.mem_of_getElem? (i := 14) rfl))) (mvT hZ (hw _ (List.mem_of_getElem? (i := 15) rfl))) (notFace_of_selects (args := #[]) (mvT hZ (hw _ (List.mem_of_getElem? (i := 17) rfl)))) (mvT hZ (hw _ (List.mem_of_getElem? (i := 17) rfl))) (mvT hZ (hw _ (List.mem_of_getElem? (i := 16) rfl))) (by decide) (backOf (W := 0) (rmc l Z a0 hw [] b1 ln16 T16.heap n0 (Nat.le_trans Z0 K16.1) f16_2) hZ (hw _ (List.mem_of_getElem? (i := 18) rfl)) (hw _ (List.mem_of_getElem? (i := 2) rfl)) (by decide) (by decide)) q20a q20c (g := (mkF m 241 #[.val (.int p0), .val (.int p1), .val (.int p2), .val (.long q3), .second, .val (.long q4), .second, .val (.long q5), .second, .val (.ref b1), .val (.int (1 : Int32)), .val (.int l1), .val (.int (if ¬ ((((p0.toUInt32 >>> ((16 : Int32) &&& 31).toUInt32).toInt32) &&& (1 : Int32)) = (0 : Int32)) then (1 : Int32) else 0)), .val (.int l2), .val (.int (if ¬ ((((p1.toUInt32 >>> ((16 : Int32) &&& 31).toUInt32).toInt32) &&& (1 : Int32)) = (0 : Int32)) then (1 : Int32) else 0)), .val (.int l3), .val (.int (if ¬ ((((p2.toUInt32 >>> ((16 : Int32) &&& 31).toUInt32).toInt32) &&& (1 : Int32)) = (0 : Int32)) then (1 : Int32) else 0)), .val (.int (0 : Int32)), .val (.int (if (¬ ((((p1.toUInt32 >>> ((16 : Int32) &&& 31).toUInt32).toInt32) &&& (1 : Int32)) = (0 : Int32))) ∧ (¬ ((l1.toInt64) < (20000 : Int64))) then (1 : Int32) else 0)), .val (.int (if ((¬ ((((p1.toUInt32 >>> ((16 : Int32) &&& 31).toUInt32).toInt32) &&& (1 : Int32)) = (0 : Int32))) ∧ (¬ ((l1.toInt64) < (20000 : Int64)))) ∨ ((¬ ((((p2.toUInt32 >>> ((16 : Int32) &&& 31).toUInt32).toInt32) &&& (1 : Int32)) = (0 : Int32))) ∧ (¬ (((l1.toInt64) + (l2.toInt64)) < (20000 : Int64)))) then (1 : Int32) else 0))] [(.ref b1)])) rfl (by rw [hml]; rfl) (Steps.refl _) (argsL := []) (rest := []) (lenOf pd0_1 rfl) rfl (by show 2 * 0 + _ ≤ _; exact Nat.le_of_eq rfl) (hb hby at_241) (fun _ _ => ⟨rfl, rfl, (by decide : 1 + 0 ≤ _), (by decide : 5 + 0 ≤ _)⟩)
  dsimp only [Pt.U, Pt.locs, Pt.cells, Pt.slots] at X20 l20 y20 z20 st20 hQ20
  subst y20 z20
  have X20 : Stand p l e room_1 s m #[(.int p0), (.int p1), (.int p2), (.long q3), (.long q4), (.long q5)] below meth c T20 _ 1 5 := X20
  obtain ⟨rfl, N20q, e20⟩ := hQ20
  have N20 : Fr n0 L20 := by rw [l20]; exact Fr.app N16 N20q
  refine own_go (fun _ k => st20.trans k) ?_
  show own_Fin p.tables e below (T20.setTop (mkF m 244 #[.val (.int p0), .val (.int p1), .val (.int p2), .val (.long q3), .second, .val (.long q4), .second, .val (.long q5), .second, .val (.ref b1), .val (.int (1 : Int32)), .val (.int l1), .val (.int (if ¬ ((((p0.toUInt32 >>> ((16 : Int32) &&& 31).toUInt32).toInt32) &&& (1 : Int32)) = (0 : Int32)) then (1 : Int32) else 0)), .val (.int l2), .val (.int (if ¬ ((((p1.toUInt32 >>> ((16 : Int32) &&& 31).toUInt32).toInt32) &&& (1 : Int32)) = (0 : Int32)) then (1 : Int32) else 0)), .val (.int l3), .val (.int (if ¬ ((((p2.toUInt32 >>> ((16 : Int32) &&& 31).toUInt32).toInt32) &&& (1 : Int32)) = (0 : Int32)) then (1 : Int32) else 0)), .val (.int (0 : Int32)), .val (.int (if (¬ ((((p1.toUInt32 >>> ((16 : Int32) &&& 31).toUInt32).toInt32) &&& (1 : Int32)) = (0 : Int32))) ∧ (¬ ((l1.toInt64) < (20000 : Int64))) then (1 : Int32) else 0)), .val (.int (if ((¬ ((((p1.toUInt32 >>> ((16 : Int32) &&& 31).toUInt32).toInt32) &&& (1 : Int32)) = (0 : Int32))) ∧ (¬ ((l1.toInt64) < (20000 : Int64)))) ∨ ((¬ ((((p2.toUInt32 >>> ((16 : Int32) &&& 31).toUInt32).toInt32) &&& (1 : Int32)) = (0 : Int32))) ∧ (¬ (((l1.toInt64) + (l2.toInt64)) < (20000 : Int64)))) then (1 : Int32) else 0))] [(.int (if (0 : Int32) < (cmpValue (FP.dcmp ln16 FP.dconst0) .l) then (1 : Int32) else 0))])) _
  refine own_go (B := T20.setTop (mkF m 246 #[.val (.int p0), .val (.int p1), .val (.int p2), .val (.long q3), .second, .val (.long q4), .second, .val (.long q5), .second, .val (.ref b1), .val (.int (1 : Int32)), .val (.int l1), .val (.int (if ¬ ((((p0.toUInt32 >>> ((16 : Int32) &&& 31).toUInt32).toInt32) &&& (1 : Int32)) = (0 : Int32)) then (1 : Int32) else 0)), .val (.int l2), .val (.int (if ¬ ((((p1.toUInt32 >>> ((16 : Int32) &&& 31).toUInt32).toInt32) &&& (1 : Int32)) = (0 : Int32)) then (1 : Int32) else 0)), .val (.int l3), .val (.int (if ¬ ((((p2.toUInt32 >>> ((16 : Int32) &&& 31).toUInt32).toInt32) &&& (1 : Int32)) = (0 : Int32)) then (1 : Int32) else 0)), .val (.int (0 : Int32)), .val (.int (if (¬ ((((p1.toUInt32 >>> ((16 : Int32) &&& 31).toUInt32).toInt32) &&& (1 : Int32)) = (0 : Int32))) ∧ (¬ ((l1.toInt64) < (20000 : Int64))) then (1 : Int32) else 0)), .val (.int (if ((¬ ((((p1.toUInt32 >>> ((16 : Int32) &&& 31).toUInt32).toInt32) &&& (1 : Int32)) = (0 : Int32))) ∧ (¬ ((l1.toInt64) < (20000 : Int64)))) ∨ ((¬ ((((p2.toUInt32 >>> ((16 : Int32) &&& 31).toUInt32).toInt32) &&& (1 : Int32)) = (0 : Int32))) ∧ (¬ (((l1.toInt64) + (l2.toInt64)) < (20000 : Int64)))) then (1 : Int32) else 0))] [(.int (if ((¬ ((((p1.toUInt32 >>> ((16 : Int32) &&& 31).toUInt32).toInt32) &&& (1 : Int32)) = (0 : Int32))) ∧ (¬ ((l1.toInt64) < (20000 : Int64)))) ∨ ((¬ ((((p2.toUInt32 >>> ((16 : Int32) &&& 31).toUInt32).toInt32) &&& (1 : Int32)) = (0 : Int32))) ∧ (¬ (((l1.toInt64) + (l2.toInt64)) < (20000 : Int64)))) then (1 : Int32) else 0)), (.int (if (0 : Int32) < (cmpValue (FP.dcmp ln16 FP.dconst0) .l) then (1 : Int32) else 0))])) (fun t k => ?_) ?_
  · show Steps p.tables e below (T20.setTop (mkF m 244 #[.val (.int p0), .val (.int p1), .val (.int p2), .val (.long q3), .second, .val (.long q4), .second, .val (.long q5), .second, .val (.ref b1), .val (.int (1 : Int32)), .val (.int l1), .val (.int (if ¬ ((((p0.toUInt32 >>> ((16 : Int32) &&& 31).toUInt32).toInt32) &&& (1 : Int32)) = (0 : Int32)) then (1 : Int32) else 0)), .val (.int l2), .val (.int (if ¬ ((((p1.toUInt32 >>> ((16 : Int32) &&& 31).toUInt32).toInt32) &&& (1 : Int32)) = (0 : Int32)) then (1 : Int32) else 0)), .val (.int l3), .val (.int (if ¬ ((((p2.toUInt32 >>> ((16 : Int32) &&& 31).toUInt32).toInt32) &&& (1 : Int32)) = (0 : Int32)) then (1 : Int32) else 0)), .val (.int (0 : Int32)), .val (.int (if (¬ ((((p1.toUInt32 >>> ((16 : Int32) &&& 31).toUInt32).toInt32) &&& (1 : Int32)) = (0 : Int32))) ∧ (¬ ((l1.toInt64) < (20000 : Int64))) then (1 : Int32) else 0)), .val (.int (if ((¬ ((((p1.toUInt32 >>> ((16 : Int32) &&& 31).toUInt32).toInt32) &&& (1 : Int32)) = (0 : Int32))) ∧ (¬ ((l1.toInt64) < (20000 : Int64)))) ∨ ((¬ ((((p2.toUInt32 >>> ((16 : Int32) &&& 31).toUInt32).toInt32) &&& (1 : Int32)) = (0 : Int32))) ∧ (¬ (((l1.toInt64) + (l2.toInt64)) < (20000 : Int64)))) then (1 : Int32) else 0))] [(.int (if (0 : Int32) < (cmpValue (FP.dcmp ln16 FP.dconst0) .l) then (1 : Int32) else 0))])) t
    refine XS.iload X20.here hx rfl (hb hby at_244) rfl ?_
    exact k
  have hc21 : ((0 : Int32) < (cmpValue (FP.dcmp ln16 FP.dconst0) .l)) ↔ (((¬ ((((p1.toUInt32 >>> ((16 : Int32) &&& 31).toUInt32).toInt32) &&& (1 : Int32)) = (0 : Int32))) ∧ (¬ ((l1.toInt64) < (20000 : Int64)))) ∨ ((¬ ((((p2.toUInt32 >>> ((16 : Int32) &&& 31).toUInt32).toInt32) &&& (1 : Int32)) = (0 : Int32))) ∧ (¬ (((l1.toInt64) + (l2.toInt64)) < (20000 : Int64))))) := own_cnt3 hp_l2 hp_l3 hC11 hC16
  refine own_go (B := T20.setTop (mkF m 258 #[.val (.int p0), .val (.int p1), .val (.int p2), .val (.long q3), .second, .val (.long q4), .second, .val (.long q5), .second, .val (.ref b1), .val (.int (1 : Int32)), .val (.int l1), .val (.int (if ¬ ((((p0.toUInt32 >>> ((16 : Int32) &&& 31).toUInt32).toInt32) &&& (1 : Int32)) = (0 : Int32)) then (1 : Int32) else 0)), .val (.int l2), .val (.int (if ¬ ((((p1.toUInt32 >>> ((16 : Int32) &&& 31).toUInt32).toInt32) &&& (1 : Int32)) = (0 : Int32)) then (1 : Int32) else 0)), .val (.int l3), .val (.int (if ¬ ((((p2.toUInt32 >>> ((16 : Int32) &&& 31).toUInt32).toInt32) &&& (1 : Int32)) = (0 : Int32)) then (1 : Int32) else 0)), .val (.int (0 : Int32)), .val (.int (if (¬ ((((p1.toUInt32 >>> ((16 : Int32) &&& 31).toUInt32).toInt32) &&& (1 : Int32)) = (0 : Int32))) ∧ (¬ ((l1.toInt64) < (20000 : Int64))) then (1 : Int32) else 0)), .val (.int (if ((¬ ((((p1.toUInt32 >>> ((16 : Int32) &&& 31).toUInt32).toInt32) &&& (1 : Int32)) = (0 : Int32))) ∧ (¬ ((l1.toInt64) < (20000 : Int64)))) ∨ ((¬ ((((p2.toUInt32 >>> ((16 : Int32) &&& 31).toUInt32).toInt32) &&& (1 : Int32)) = (0 : Int32))) ∧ (¬ (((l1.toInt64) + (l2.toInt64)) < (20000 : Int64)))) then (1 : Int32) else 0))] [(.int (1 : Int32))])) (fun t k => ?_) ?_
  · show Steps p.tables e below (T20.setTop (mkF m 246 #[.val (.int p0), .val (.int p1), .val (.int p2), .val (.long q3), .second, .val (.long q4), .second, .val (.long q5), .second, .val (.ref b1), .val (.int (1 : Int32)), .val (.int l1), .val (.int (if ¬ ((((p0.toUInt32 >>> ((16 : Int32) &&& 31).toUInt32).toInt32) &&& (1 : Int32)) = (0 : Int32)) then (1 : Int32) else 0)), .val (.int l2), .val (.int (if ¬ ((((p1.toUInt32 >>> ((16 : Int32) &&& 31).toUInt32).toInt32) &&& (1 : Int32)) = (0 : Int32)) then (1 : Int32) else 0)), .val (.int l3), .val (.int (if ¬ ((((p2.toUInt32 >>> ((16 : Int32) &&& 31).toUInt32).toInt32) &&& (1 : Int32)) = (0 : Int32)) then (1 : Int32) else 0)), .val (.int (0 : Int32)), .val (.int (if (¬ ((((p1.toUInt32 >>> ((16 : Int32) &&& 31).toUInt32).toInt32) &&& (1 : Int32)) = (0 : Int32))) ∧ (¬ ((l1.toInt64) < (20000 : Int64))) then (1 : Int32) else 0)), .val (.int (if ((¬ ((((p1.toUInt32 >>> ((16 : Int32) &&& 31).toUInt32).toInt32) &&& (1 : Int32)) = (0 : Int32))) ∧ (¬ ((l1.toInt64) < (20000 : Int64)))) ∨ ((¬ ((((p2.toUInt32 >>> ((16 : Int32) &&& 31).toUInt32).toInt32) &&& (1 : Int32)) = (0 : Int32))) ∧ (¬ (((l1.toInt64) + (l2.toInt64)) < (20000 : Int64)))) then (1 : Int32) else 0))] [(.int (if ((¬ ((((p1.toUInt32 >>> ((16 : Int32) &&& 31).toUInt32).toInt32) &&& (1 : Int32)) = (0 : Int32))) ∧ (¬ ((l1.toInt64) < (20000 : Int64)))) ∨ ((¬ ((((p2.toUInt32 >>> ((16 : Int32) &&& 31).toUInt32).toInt32) &&& (1 : Int32)) = (0 : Int32))) ∧ (¬ (((l1.toInt64) + (l2.toInt64)) < (20000 : Int64)))) then (1 : Int32) else 0)), (.int (if (0 : Int32) < (cmpValue (FP.dcmp ln16 FP.dconst0) .l) then (1 : Int32) else 0))])) t
    refine XS.icmpNo X20.here hx rfl (hb hby at_246) rfl (teq (own_bEq hc21)).2 ?_
    refine XS.iconst X20.here hx rfl (hb hby at_249) ?_
    refine XS.goto X20.here hx rfl (pc0 := 250) (pc' := 254) rfl (hb hby at_250) (by decide) (by decide) ?_
    refine XS.istore X20.here hx rfl (hb hby at_254) rfl (l' := #[.val (.int p0), .val (.int p1), .val (.int p2), .val (.long q3), .second, .val (.long q4), .second, .val (.long q5), .second, .val (.ref b1), .val (.int (1 : Int32)), .val (.int l1), .val (.int (if ¬ ((((p0.toUInt32 >>> ((16 : Int32) &&& 31).toUInt32).toInt32) &&& (1 : Int32)) = (0 : Int32)) then (1 : Int32) else 0)), .val (.int l2), .val (.int (if ¬ ((((p1.toUInt32 >>> ((16 : Int32) &&& 31).toUInt32).toInt32) &&& (1 : Int32)) = (0 : Int32)) then (1 : Int32) else 0)), .val (.int l3), .val (.int (if ¬ ((((p2.toUInt32 >>> ((16 : Int32) &&& 31).toUInt32).toInt32) &&& (1 : Int32)) = (0 : Int32)) then (1 : Int32) else 0)), .val (.int (0 : Int32)), .val (.int (if (¬ ((((p1.toUInt32 >>> ((16 : Int32) &&& 31).toUInt32).toInt32) &&& (1 : Int32)) = (0 : Int32))) ∧ (¬ ((l1.toInt64) < (20000 : Int64))) then (1 : Int32) else 0)), .val (.int (if ((¬ ((((p1.toUInt32 >>> ((16 : Int32) &&& 31).toUInt32).toInt32) &&& (1 : Int32)) = (0 : Int32))) ∧ (¬ ((l1.toInt64) < (20000 : Int64)))) ∨ ((¬ ((((p2.toUInt32 >>> ((16 : Int32) &&& 31).toUInt32).toInt32) &&& (1 : Int32)) = (0 : Int32))) ∧ (¬ (((l1.toInt64) + (l2.toInt64)) < (20000 : Int64)))) then (1 : Int32) else 0))]) rfl ?_
    show Steps p.tables e below (T20.setTop (mkF m 256 #[.val (.int p0), .val (.int p1), .val (.int p2), .val (.long q3), .second, .val (.long q4), .second, .val (.long q5), .second, .val (.ref b1), .val (.int (1 : Int32)), .val (.int l1), .val (.int (if ¬ ((((p0.toUInt32 >>> ((16 : Int32) &&& 31).toUInt32).toInt32) &&& (1 : Int32)) = (0 : Int32)) then (1 : Int32) else 0)), .val (.int l2), .val (.int (if ¬ ((((p1.toUInt32 >>> ((16 : Int32) &&& 31).toUInt32).toInt32) &&& (1 : Int32)) = (0 : Int32)) then (1 : Int32) else 0)), .val (.int l3), .val (.int (if ¬ ((((p2.toUInt32 >>> ((16 : Int32) &&& 31).toUInt32).toInt32) &&& (1 : Int32)) = (0 : Int32)) then (1 : Int32) else 0)), .val (.int (0 : Int32)), .val (.int (if (¬ ((((p1.toUInt32 >>> ((16 : Int32) &&& 31).toUInt32).toInt32) &&& (1 : Int32)) = (0 : Int32))) ∧ (¬ ((l1.toInt64) < (20000 : Int64))) then (1 : Int32) else 0)), .val (.int (if ((¬ ((((p1.toUInt32 >>> ((16 : Int32) &&& 31).toUInt32).toInt32) &&& (1 : Int32)) = (0 : Int32))) ∧ (¬ ((l1.toInt64) < (20000 : Int64)))) ∨ ((¬ ((((p2.toUInt32 >>> ((16 : Int32) &&& 31).toUInt32).toInt32) &&& (1 : Int32)) = (0 : Int32))) ∧ (¬ (((l1.toInt64) + (l2.toInt64)) < (20000 : Int64)))) then (1 : Int32) else 0))] [])) t
    refine XS.iload X20.here hx rfl (hb hby at_256) rfl ?_
    exact k
  obtain ⟨fs, hr, hrun, hended, hW, hsame⟩ := X20.leave (v := some (.int (1 : Int32))) (fun h => by rw [Bd.returns] at h; cases h)
  refine ⟨_, _, ?_, hrun, hended, _, _, rfl, ?_, ⟨_, rfl⟩, hW, hsame.mono (by decide) (by decide)⟩
  · exact retOut X20 hx (t := .boolean) Bd.returns rfl (Or.inl ⟨rfl, by simp, _, rfl⟩) (hb hby at_258) hr
  · show Q0 Z p0 p1 p2 q3 q4 q5 h0 n0 _ T20.heap _
    rw [e20]
    exact ⟨rfl, N20⟩
set_option maxRecDepth 65536 in
set_option maxHeartbeats 40000000 in
theorem comes_1 {Post : Tables → Env → Array Value → State → Outcome → State → Prop} (hpost : ∀ tb e args s v u, (limb_1_1.after args s (.returned v) u = true ∧ limb_1_2.after args s (.returned v) u = true ∧ True) → FrameEnd s (.returned v) u (Jvm.fieldLocs frame_1_writes args s ++ Jvm.arrayLocs frame_1_arrays args s ++ Jvm.staticLocs frame_1_statics s) 16 128 → Post tb e args s (.returned v) u) :
    ArmFor flags0 classFile x code maxLocals ret World_1 tables_1 room_1 Calls_1 rest_1 Pre_1 Post := by
  intro l hfl _ _ p e ha hc hk s m args below hf hA hF happ hP
  obtain ⟨hcalls, hrest, hpre⟩ := hP
  obtain ⟨-, -, -, hnamed, -, -, -, hat⟩ := (Spec.applies_iff hf).mp happ
  obtain ⟨hg, hn⟩ := and_e (Cond.before_iff.mp (show (Jvm.Cond.and given_1 narrow_1).before args s = true from hpre))
  obtain ⟨hcnt, hv0⟩ := and_e hg
  obtain ⟨hk0, hv1⟩ := and_e hv0
  obtain ⟨hk1, hv2⟩ := and_e hv1
  obtain ⟨hk2, hv3⟩ := and_e hv2
  obtain ⟨hk3, hv4⟩ := and_e hv3
  obtain ⟨hk4, hv5⟩ := and_e hv4
  have hk5 := hv5
  obtain ⟨w0, w1, w2, w3, w4, w5, rfl⟩ : ∃ w0 w1 w2 w3 w4 w5 : Value, args = #[w0, w1, w2, w3, w4, w5] := by
    have hs : args.size = 6 := by simpa [Cond.value, given_1] using hcnt
    obtain ⟨L⟩ := args
    match L, hs with
    | [w0, w1, w2, w3, w4, w5], _ => exact ⟨w0, w1, w2, w3, w4, w5, rfl⟩
  have hw := fun d (hd : d ∈ tables_1) => atoms_spec (ws := Jvm.Cond.code x code maxLocals ret :: tables_1) hat d (List.mem_cons_of_mem _ hd)
  have hfit : Fit s := fun {y c} hc i hi => by
    obtain ⟨ha, rfl⟩ := Array.getElem?_eq_some_iff.mp hc
    have q := List.all_eq_true.mp ((Array.all_eq_true_iff_forall_mem.mp hF) _ (Array.getElem_mem ha)) i (List.mem_range.mpr hi)
    simpa [Array.getElem?_eq_getElem hi] using q
  obtain ⟨i0, ei0⟩ := is_v hk0
  obtain rfl : w0 = (.int i0) := Option.some.inj ei0
  obtain ⟨i1, ei1⟩ := is_v hk1
  obtain rfl : w1 = (.int i1) := Option.some.inj ei1
  obtain ⟨i2, ei2⟩ := is_v hk2
  obtain rfl : w2 = (.int i2) := Option.some.inj ei2
  obtain ⟨i3, ei3⟩ := isL_v hk3
  obtain rfl : w3 = (.long i3) := Option.some.inj ei3
  obtain ⟨i4, ei4⟩ := isL_v hk4
  obtain rfl : w4 = (.long i4) := Option.some.inj ei4
  obtain ⟨i5, ei5⟩ := isL_v hk5
  obtain rfl : w5 = (.long i5) := Option.some.inj ei5
  obtain ⟨n, o, h1, h2, h3, _, L, rfl, ⟨rfl, N⟩, hq⟩ := rm0 l s _ hw tables_1 i0 i1 i2 i3 i4 i5  s.heap s.heap.size (Nat.le_refl _)  p e ha hc hk s m _ below hf ((Spec.applies_iff_loose hf).mp happ).1 ⟨rfl, State.Warmed39.refl s, rfl⟩ trivial
  refine ⟨n, _, h1, h2, h3, hpost _ _ _ _ _ _ ⟨Cond.after_iff.mpr rfl, Cond.after_iff.mpr (eq_i res_at (Term.int_eval (1)) rfl), trivial⟩ ⟨hq.1, hq.2.1, (hq.2.2.sift fun y hy => Or.inr (N y hy)).mono (by decide) (by decide)⟩⟩
theorem main_1_1 : Claimed_1_1 := comes_1 fun _ _ _ _ _ _ h hF => ⟨h.1, hF⟩
theorem main_1_2 : Claimed_1_2 := comes_1 fun _ _ _ _ _ _ h hF => ⟨h.2.1, hF⟩
end Jvm.Pilot.@@N@@
namespace Jvm.Pilot.@@N@@
open Jvm Jvm.ClassFile Sem Op Lib Jvm.Free Jvm.Stand Jvm.Pilot.@@N@@.Jvm.D
/-! MADE BY PROGRAM (witnessworld.py) out of the Statement's table words and the real class files: 10 classes; the members and pool entries that the words name. The judged class is class 1, her method 1. -/
namespace start1
open Jvm.ClassFile
def u (s : String) : CpInfo := .utf8 (stringToUtf16 s)
/-- a pool by its gaps: so many unusable entries, then the entry; so many at the end -/
def gap : Nat → List CpInfo → List CpInfo
  | 0, r => r
  | n + 1, r => .unusable :: gap n r
def poolList (es : List (Nat × CpInfo)) (last : Nat) : List CpInfo := es.foldr (fun e r => gap e.1 (e.2 :: r)) (gap last [])
def pool (es : List (Nat × CpInfo)) (last : Nat) : Array CpInfo := ⟨poolList es last⟩
def fileOf (pool : Array CpInfo) (this : Nat) (attrs : Array Attribute := #[]) (ms : Array MethodInfo := #[]) (fl : Nat := 33) (sup : Nat := 0) (ifs : Array Nat := #[]) (fds : Array FieldInfo := #[]) : ClassFile where
  minorVersion := 0
  majorVersion := 65
  constantPool := pool
  accessFlags := fl
  thisClass := this
  superClass := sup
  interfaces := ifs
  fields := fds
  methods := ms
  attributes := attrs
def plain (name : String) (sup : Option ClassId) : Class where
  name := name
  kind := .ordinary
  loader := none
  accessFlags := 33
  super := sup
  interfaces := #[]
  cf := none
  fields := #[]
  methods := #[]
  instanceTypes := #[]
  staticTypes := #[]
  resolved := #[]
  callSites := []
  init := .initialized
  statics := none
  mirror := none

def pool0 : Array CpInfo := pool [(5, u "<init>"), (0, u "()V"), (1, .class_ 10), (1, u "java/lang/Object")] 113

def k0c0 : Code := { maxStack := 0, maxLocals := 1, code := object_method_1_code, exceptionTable := #[], attributes := #[] }
def k0m0 : Method := { name := "<init>", desc := "()V", sig := { parameters := [], returnType := none }, accessFlags := 1, code := some k0c0 }
/-- java/lang/Object -/
def k0 : Class := { plain "java/lang/Object" none with
  accessFlags := 33
  interfaces := #[]
  cf := some (fileOf pool0 8 #[] #[{ accessFlags := 1, nameIndex := 5, descriptorIndex := 6, attributes := #[] }] 33 0 #[] #[])
  fields := #[]
  methods := #[k0m0]
  instanceTypes := #[]
  staticTypes := #[]
  resolved := Array.replicate 124 none
  statics := none }

def pool1 : Array CpInfo := pool [(2, .class_ 4), (1, u "java/lang/Object"), (0, u "<init>"), (0, u "()V"), (0, .class_ 8), (0, u "com/example/nimble_trace/nimbletrace/TextCost"), (0, .methodref 7 10), (0, .nameAndType 5 11), (0, u "(J)V"), (0, .methodref 7 13), (0, .nameAndType 14 15), (0, u "counts"), (0, u "()Z"), (0, .integer 65535), (0, .methodref 7 18), (0, .nameAndType 19 20), (0, u "add"), (0, u "(IJZ)V"), (0, .long 20000), (1, .class_ 24), (0, u "com/example/nimble_trace/nimbletrace/TextCostCountsPinLaw"), (2, u "law"), (0, u "(IIIJJJ)Z")] 3

def k1m0 : Method := { name := "<init>", desc := "()V", sig := { parameters := [], returnType := none }, accessFlags := 1, code := none }
def k1c1 : Code := { maxStack := 5, maxLocals := 20, code := code, exceptionTable := #[], attributes := #[] }
def k1m1 : Method := { name := "law", desc := "(IIIJJJ)Z", sig := { parameters := [.int, .int, .int, .long, .long, .long], returnType := some .boolean }, accessFlags := 9, code := some k1c1 }
/-- com/example/nimble_trace/nimbletrace/TextCostCountsPinLaw -/
def k1 : Class := { plain "com/example/nimble_trace/nimbletrace/TextCostCountsPinLaw" (some 0) with
  accessFlags := 49
  interfaces := #[]
  cf := some (fileOf pool1 23 #[] #[{ accessFlags := 1, nameIndex := 5, descriptorIndex := 6, attributes := #[] }, { accessFlags := 9, nameIndex := 27, descriptorIndex := 28, attributes := #[] }] 49 2 #[] #[])
  fields := #[]
  methods := #[k1m0, k1m1]
  instanceTypes := #[]
  staticTypes := #[]
  resolved := Array.replicate 32 none
  statics := none }

def pool2 : Array CpInfo := pool [(1, .methodref 2 3), (0, .class_ 4), (0, .nameAndType 5 6), (0, u "java/lang/Object"), (0, u "<init>"), (0, u "()V"), (0, .class_ 8), (0, u "com/example/nimble_trace/nimbletrace/TextCost"), (0, .long 10000), (1, .fieldref 7 12), (0, .nameAndType 13 14), (0, u "lastNanosPerLine"), (0, u "J"), (0, .fieldref 7 16), (0, .nameAndType 17 14), (0, u "leastNanos"), (0, .methodref 19 20), (0, .class_ 21), (0, .nameAndType 22 23), (0, u "java/lang/Math"), (0, u "max"), (0, u "(JJ)J"), (0, .methodref 7 25), (0, .nameAndType 26 27), (0, u "isWarm"), (0, u "()Z"), (0, .fieldref 7 29), (0, .nameAndType 30 14), (0, u "linesMade"), (0, .fieldref 7 32), (0, .nameAndType 33 34), (0, u "lines"), (0, u "D"), (0, .fieldref 7 36), (0, .nameAndType 37 34), (0, u "nanos"), (0, .double 4611686018427387904), (1, .double 4606056518893174784), (1, .long 20000), (11, u "NEAR_NANOS"), (15, u "UNTIL_COUNTED_NANOS"), (1, u "FAR_LEAST_NANOS"), (0, u "WARM_LINES"), (0, u "I"), (1, u "NEAR_MILLIS"), (0, u "KEPT"), (0, u "(J)V"), (2, u "add"), (0, u "(IJZ)V"), (1, u "counts")] 5

def k2c0 : Code := { maxStack := 3, maxLocals := 3, code := prog_13_method_1_code, exceptionTable := #[], attributes := #[] }
def k2m0 : Method := { name := "<init>", desc := "(J)V", sig := { parameters := [.long], returnType := none }, accessFlags := 0, code := some k2c0 }
def k2c1 : Code := { maxStack := 7, maxLocals := 6, code := prog_13_method_2_code, exceptionTable := #[], attributes := #[] }
def k2m1 : Method := { name := "add", desc := "(IJZ)V", sig := { parameters := [.int, .long, .boolean], returnType := none }, accessFlags := 0, code := some k2c1 }
def k2c2 : Code := { maxStack := 4, maxLocals := 1, code := prog_13_method_3_code, exceptionTable := #[], attributes := #[] }
def k2m2 : Method := { name := "isWarm", desc := "()Z", sig := { parameters := [], returnType := some .boolean }, accessFlags := 0, code := some k2c2 }
def k2c3 : Code := { maxStack := 4, maxLocals := 1, code := prog_13_method_4_code, exceptionTable := #[], attributes := #[] }
def k2m3 : Method := { name := "counts", desc := "()Z", sig := { parameters := [], returnType := some .boolean }, accessFlags := 0, code := some k2c3 }
/-- com/example/nimble_trace/nimbletrace/TextCost -/
def k2 : Class := { plain "com/example/nimble_trace/nimbletrace/TextCost" (some 0) with
  accessFlags := 48
  interfaces := #[]
  cf := some (fileOf pool2 7 #[] #[{ accessFlags := 0, nameIndex := 5, descriptorIndex := 78, attributes := #[] }, { accessFlags := 0, nameIndex := 81, descriptorIndex := 82, attributes := #[] }, { accessFlags := 0, nameIndex := 26, descriptorIndex := 27, attributes := #[] }, { accessFlags := 0, nameIndex := 84, descriptorIndex := 27, attributes := #[] }] 48 2 #[] #[{ accessFlags := 24, nameIndex := 70, descriptorIndex := 14, attributes := #[] }, { accessFlags := 24, nameIndex := 72, descriptorIndex := 14, attributes := #[] }, { accessFlags := 24, nameIndex := 73, descriptorIndex := 74, attributes := #[] }, { accessFlags := 24, nameIndex := 76, descriptorIndex := 14, attributes := #[] }, { accessFlags := 26, nameIndex := 54, descriptorIndex := 14, attributes := #[] }, { accessFlags := 26, nameIndex := 77, descriptorIndex := 34, attributes := #[] }, { accessFlags := 18, nameIndex := 17, descriptorIndex := 14, attributes := #[] }, { accessFlags := 2, nameIndex := 30, descriptorIndex := 14, attributes := #[] }, { accessFlags := 2, nameIndex := 37, descriptorIndex := 34, attributes := #[] }, { accessFlags := 2, nameIndex := 33, descriptorIndex := 34, attributes := #[] }, { accessFlags := 2, nameIndex := 13, descriptorIndex := 14, attributes := #[] }])
  fields := #[{ name := "UNTIL_COUNTED_NANOS", type := .long, accessFlags := 24, slot := 0, constantValue := 0 }, { name := "FAR_LEAST_NANOS", type := .long, accessFlags := 24, slot := 1, constantValue := 0 }, { name := "WARM_LINES", type := .int, accessFlags := 24, slot := 2, constantValue := 0 }, { name := "NEAR_MILLIS", type := .long, accessFlags := 24, slot := 3, constantValue := 0 }, { name := "NEAR_NANOS", type := .long, accessFlags := 26, slot := 4, constantValue := 0 }, { name := "KEPT", type := .double, accessFlags := 26, slot := 5, constantValue := 0 }, { name := "leastNanos", type := .long, accessFlags := 18, slot := 0, constantValue := 0 }, { name := "linesMade", type := .long, accessFlags := 2, slot := 1, constantValue := 0 }, { name := "nanos", type := .double, accessFlags := 2, slot := 2, constantValue := 0 }, { name := "lines", type := .double, accessFlags := 2, slot := 3, constantValue := 0 }, { name := "lastNanosPerLine", type := .long, accessFlags := 2, slot := 4, constantValue := 0 }]
  methods := #[k2m0, k2m1, k2m2, k2m3]
  instanceTypes := #[.long, .long, .double, .double, .long]
  staticTypes := #[.long, .long, .int, .long, .long, .double]
  resolved := Array.replicate 90 none
  statics := none }

def pool3 : Array CpInfo := pool [(1, .class_ 2), (0, u "java/lang/Math"), (1, .class_ 6), (1, u "java/lang/Object"), (0, u "<init>"), (0, u "()V"), (89, .class_ 100), (1, u "java/lang/Math$RandomNumberGeneratorHolder"), (20, u "(JJ)J"), (50, u "negativeZeroFloatBits"), (0, u "J"), (2, u "negativeZeroDoubleBits"), (21, u "max"), (46, u "$assertionsDisabled"), (0, u "Z"), (91, u "twoToTheDoubleScaleDown"), (0, u "D"), (4, u "twoToTheDoubleScaleUp"), (9, u "E"), (3, u "PI"), (2, u "TAU"), (2, u "DEGREES_TO_RADIANS"), (0, u "RADIANS_TO_DEGREES")] 94

def k3m0 : Method := { name := "<init>", desc := "()V", sig := { parameters := [], returnType := none }, accessFlags := 2, code := none }
def k3c1 : Code := { maxStack := 4, maxLocals := 4, code := jdk_29_method_66_code, exceptionTable := #[], attributes := #[] }
def k3m1 : Method := { name := "max", desc := "(JJ)J", sig := { parameters := [.long, .long], returnType := some .long }, accessFlags := 9, code := some k3c1 }
/-- java/lang/Math -/
def k3 : Class := { plain "java/lang/Math" (some 0) with
  accessFlags := 49
  interfaces := #[]
  cf := some (fileOf pool3 1 #[.nestMembers #[98]] #[{ accessFlags := 2, nameIndex := 7, descriptorIndex := 8, attributes := #[] }, { accessFlags := 9, nameIndex := 198, descriptorIndex := 121, attributes := #[] }] 49 4 #[] #[{ accessFlags := 25, nameIndex := 354, descriptorIndex := 339, attributes := #[] }, { accessFlags := 25, nameIndex := 358, descriptorIndex := 339, attributes := #[] }, { accessFlags := 25, nameIndex := 361, descriptorIndex := 339, attributes := #[] }, { accessFlags := 26, nameIndex := 364, descriptorIndex := 339, attributes := #[] }, { accessFlags := 26, nameIndex := 365, descriptorIndex := 339, attributes := #[] }, { accessFlags := 26, nameIndex := 172, descriptorIndex := 173, attributes := #[] }, { accessFlags := 26, nameIndex := 176, descriptorIndex := 173, attributes := #[] }, { accessFlags := 8, nameIndex := 344, descriptorIndex := 339, attributes := #[] }, { accessFlags := 8, nameIndex := 338, descriptorIndex := 339, attributes := #[] }, { accessFlags := 4120, nameIndex := 245, descriptorIndex := 246, attributes := #[] }])
  fields := #[{ name := "E", type := .double, accessFlags := 25, slot := 0, constantValue := 0 }, { name := "PI", type := .double, accessFlags := 25, slot := 1, constantValue := 0 }, { name := "TAU", type := .double, accessFlags := 25, slot := 2, constantValue := 0 }, { name := "DEGREES_TO_RADIANS", type := .double, accessFlags := 26, slot := 3, constantValue := 0 }, { name := "RADIANS_TO_DEGREES", type := .double, accessFlags := 26, slot := 4, constantValue := 0 }, { name := "negativeZeroFloatBits", type := .long, accessFlags := 26, slot := 5, constantValue := 0 }, { name := "negativeZeroDoubleBits", type := .long, accessFlags := 26, slot := 6, constantValue := 0 }, { name := "twoToTheDoubleScaleUp", type := .double, accessFlags := 8, slot := 7, constantValue := 0 }, { name := "twoToTheDoubleScaleDown", type := .double, accessFlags := 8, slot := 8, constantValue := 0 }, { name := "$assertionsDisabled", type := .boolean, accessFlags := 4120, slot := 9, constantValue := 0 }]
  methods := #[k3m0, k3m1]
  instanceTypes := #[]
  staticTypes := #[.double, .double, .double, .double, .double, .long, .long, .double, .double, .boolean]
  resolved := Array.replicate 460 none
  statics := none }

def pool4 : Array CpInfo := pool [(1, u "java/lang/Cloneable"), (0, .class_ 1), (0, u "java/lang/Object"), (0, .class_ 3)] 3

/-- java/lang/Cloneable -/
def k4 : Class := { plain "java/lang/Cloneable" (some 0) with
  accessFlags := 1537
  interfaces := #[]
  cf := some (fileOf pool4 2 #[] #[] 1537 4 #[] #[])
  fields := #[]
  methods := #[]
  instanceTypes := #[]
  staticTypes := #[]
  resolved := Array.replicate 8 none
  statics := none }

def pool5 : Array CpInfo := pool [(1, u "java/io/Serializable"), (0, .class_ 1), (0, u "java/lang/Object"), (0, .class_ 3)] 3

/-- java/io/Serializable -/
def k5 : Class := { plain "java/io/Serializable" (some 0) with
  accessFlags := 1537
  interfaces := #[]
  cf := some (fileOf pool5 2 #[] #[] 1537 4 #[] #[])
  fields := #[]
  methods := #[]
  instanceTypes := #[]
  staticTypes := #[]
  resolved := Array.replicate 8 none
  statics := none }

/-- the primitive byte -/
def k6 : Class := { plain "byte" none with kind := .primitive 'B', accessFlags := 0x411 }
/-- [B -/
def k7 : Class := { plain "[B" (some 0) with kind := .array 6 .byte, interfaces := #[4, 5], accessFlags := 1041 }

/-- the primitive int -/
def k8 : Class := { plain "int" none with kind := .primitive 'I', accessFlags := 0x411 }
/-- [I -/
def k9 : Class := { plain "[I" (some 0) with kind := .array 8 .int, interfaces := #[4, 5], accessFlags := 1041 }

def heap : Heap := #[]
def classes : Array Class := #[k0, k1, k2, k3, k4, k5, k6, k7, k8, k9]
def interned : List (Array UInt16 × Addr) := []
def slotsUsed : Nat := 0
def theMethod : MethodId := ⟨1, 1⟩
def args0 : Array Value := #[.int 5, .int 1, .int 2, .long 3, .long 1, .long 2]
def aboutOver (below : List Frame) : State where
  vm := { classes := classes, interned := interned.toArray }
  heap := heap
  slotsUsed := slotsUsed
  threads := #[{ frames := .invoking theMethod args0 :: below }]
def below0 : List Frame := [.native { method := ⟨0, 0⟩, args := #[] }]
def about1 : State := aboutOver below0
def p0 : Program := .bare "" "" ""
def e0 : Env := launch0.env 0 0 0
theorem w_frames : about1.frames = Frame.invoking theMethod args0 :: below0 := rfl
set_option maxRecDepth 65536 in
theorem w_args : argsFit about1.vm theMethod args0 = true := by decide +kernel
set_option maxRecDepth 65536 in
theorem w_heap : heapFits about1 = true := by decide +kernel
set_option maxRecDepth 65536 in
theorem w_runnable : about1.curStatus? = some .runnable := by decide +kernel
set_option maxRecDepth 65536 in
theorem w_alone : about1.alone = true := by decide +kernel
set_option maxRecDepth 65536 in
theorem w_named : about1.methodNamed? x = some theMethod := by decide +kernel
set_option maxRecDepth 65536 in
theorem w_hears : about1.hears theMethod below0 = true := by decide +kernel
set_option maxRecDepth 65536 in
theorem w_ripe : about1.ripe theMethod args0 below0 = true := by decide +kernel
theorem w_running : about1.status = .running := rfl
set_option maxRecDepth 65536 in
theorem w_room : about1.hasRoom e0.platform room_1 = true :=
  launch0.hasRoom_least _ room_1 (by decide +kernel) (by decide +kernel) (by decide +kernel) (by decide +kernel) (by decide +kernel) (by decide +kernel)
theorem allAtoms_all (ts : List Jvm.Cond) (a : Array Jvm.Value) (st : Jvm.State) : (allAtoms ts).before a st = ts.all (fun c => c.before a st) := by
  induction ts with
  | nil => rfl
  | cons c t ih =>
    show (Jvm.Cond.and c (allAtoms t)).before a st = _
    rw [Jvm.Cond.before_and, ih, List.all_cons]
def words1 : List Jvm.Cond := Jvm.Cond.code x code maxLocals ret :: tables_1
/-- a 'code' word, met by the world's own term for the bytes: nothing is compared byte by byte -/
theorem code_word {y : MethodName} {bytes : ByteArray} {mx : Nat} {rt : Option FieldType} {a : Array Value} {s : State} {m : MethodId} {meth : Method} {c : Code} (h1 : s.methodNamed? y = some m) (h2 : s.vm.method? m = some meth) (h3 : meth.code = some c) (h4 : c.code = bytes)
    (h5 : (c.maxLocals == mx && c.exceptionTable.isEmpty && decide (c.maxStack ≤ mostOperands) && decide (meth.sig.returnType = rt) && !meth.locks && decide (parseMethodDescriptor y.desc = some meth.sig)) = true) : (Jvm.Cond.code y bytes mx rt).before a s = true := by
  simp only [Bool.and_eq_true, beq_iff_eq, Bool.not_eq_true', decide_eq_true_eq] at h5
  obtain ⟨⟨⟨⟨⟨g1, g2⟩, g3⟩, g4⟩, g5⟩, g6⟩ := h5
  simp [Cond.before, Cond.holds, Cond.value, h1, h2, h3, h4, g1, g2, g3, g4, g5, g6]
def isCode : Jvm.Cond → Bool
  | .code _ _ _ _ => true
  | _ => false
theorem all_split {L : List Jvm.Cond} {P : Jvm.Cond → Bool} (h1 : L.all (fun c => isCode c || P c) = true) (h2 : ∀ c ∈ L.filter isCode, P c = true) : L.all P = true := by
  refine List.all_eq_true.mpr fun c hc => ?_
  have h := List.all_eq_true.mp h1 c hc
  rcases Bool.eq_false_or_eq_true (isCode c) with hi | hi
  · exact h2 c (List.mem_filter.mpr ⟨hc, hi⟩)
  · simpa [hi] using h
set_option maxRecDepth 65536 in
theorem w_c0 : (Jvm.Cond.code x code maxLocals ret).before args0 about1 = true := code_word (m := ⟨1, 1⟩) (meth := k1m1) (c := k1c1) (by decide +kernel) rfl rfl rfl (by decide +kernel)
set_option maxRecDepth 65536 in
theorem w_c1 : (Jvm.Cond.code ({ cls := "com/example/nimble_trace/nimbletrace/TextCost", name := "<init>", desc := "(J)V" } : Jvm.MethodName) prog_13_method_1_code (3 : Nat) (Option.none : Option Jvm.ClassFile.FieldType)).before args0 about1 = true := code_word (m := ⟨2, 0⟩) (meth := k2m0) (c := k2c0) (by decide +kernel) rfl rfl rfl (by decide +kernel)
set_option maxRecDepth 65536 in
theorem w_c2 : (Jvm.Cond.code ({ cls := "java/lang/Object", name := "<init>", desc := "()V" } : Jvm.MethodName) object_method_1_code (1 : Nat) (Option.none : Option Jvm.ClassFile.FieldType)).before args0 about1 = true := code_word (m := ⟨0, 0⟩) (meth := k0m0) (c := k0c0) (by decide +kernel) rfl rfl rfl (by decide +kernel)
set_option maxRecDepth 65536 in
theorem w_c3 : (Jvm.Cond.code ({ cls := "com/example/nimble_trace/nimbletrace/TextCost", name := "counts", desc := "()Z" } : Jvm.MethodName) prog_13_method_4_code (1 : Nat) (Option.some Jvm.ClassFile.FieldType.boolean)).before args0 about1 = true := code_word (m := ⟨2, 3⟩) (meth := k2m3) (c := k2c3) (by decide +kernel) rfl rfl rfl (by decide +kernel)
set_option maxRecDepth 65536 in
theorem w_c4 : (Jvm.Cond.code ({ cls := "com/example/nimble_trace/nimbletrace/TextCost", name := "add", desc := "(IJZ)V" } : Jvm.MethodName) prog_13_method_2_code (6 : Nat) (Option.none : Option Jvm.ClassFile.FieldType)).before args0 about1 = true := code_word (m := ⟨2, 1⟩) (meth := k2m1) (c := k2c1) (by decide +kernel) rfl rfl rfl (by decide +kernel)
set_option maxRecDepth 65536 in
theorem w_c5 : (Jvm.Cond.code ({ cls := "java/lang/Math", name := "max", desc := "(JJ)J" } : Jvm.MethodName) jdk_29_method_66_code (4 : Nat) (Option.some Jvm.ClassFile.FieldType.long)).before args0 about1 = true := code_word (m := ⟨3, 1⟩) (meth := k3m1) (c := k3c1) (by decide +kernel) rfl rfl rfl (by decide +kernel)
set_option maxRecDepth 65536 in
theorem w_c6 : (Jvm.Cond.code ({ cls := "com/example/nimble_trace/nimbletrace/TextCost", name := "isWarm", desc := "()Z" } : Jvm.MethodName) prog_13_method_3_code (1 : Nat) (Option.some Jvm.ClassFile.FieldType.boolean)).before args0 about1 = true := code_word (m := ⟨2, 2⟩) (meth := k2m2) (c := k2c2) (by decide +kernel) rfl rfl rfl (by decide +kernel)
def codes1 : List Jvm.Cond := [Jvm.Cond.code x code maxLocals ret, Jvm.Cond.code ({ cls := "com/example/nimble_trace/nimbletrace/TextCost", name := "<init>", desc := "(J)V" } : Jvm.MethodName) prog_13_method_1_code (3 : Nat) (Option.none : Option Jvm.ClassFile.FieldType), Jvm.Cond.code ({ cls := "java/lang/Object", name := "<init>", desc := "()V" } : Jvm.MethodName) object_method_1_code (1 : Nat) (Option.none : Option Jvm.ClassFile.FieldType), Jvm.Cond.code ({ cls := "com/example/nimble_trace/nimbletrace/TextCost", name := "counts", desc := "()Z" } : Jvm.MethodName) prog_13_method_4_code (1 : Nat) (Option.some Jvm.ClassFile.FieldType.boolean), Jvm.Cond.code ({ cls := "com/example/nimble_trace/nimbletrace/TextCost", name := "add", desc := "(IJZ)V" } : Jvm.MethodName) prog_13_method_2_code (6 : Nat) (Option.none : Option Jvm.ClassFile.FieldType), Jvm.Cond.code ({ cls := "java/lang/Math", name := "max", desc := "(JJ)J" } : Jvm.MethodName) jdk_29_method_66_code (4 : Nat) (Option.some Jvm.ClassFile.FieldType.long), Jvm.Cond.code ({ cls := "com/example/nimble_trace/nimbletrace/TextCost", name := "isWarm", desc := "()Z" } : Jvm.MethodName) prog_13_method_3_code (1 : Nat) (Option.some Jvm.ClassFile.FieldType.boolean)]
set_option maxRecDepth 65536 in
theorem codes_eq : words1.filter isCode = codes1 := rfl
theorem w_codes : ∀ c ∈ words1.filter isCode, c.before args0 about1 = true := by
  rw [codes_eq]
  intro c hc
  simp only [codes1, List.mem_cons, List.not_mem_nil, or_false] at hc
  rcases hc with rfl | rfl | rfl | rfl | rfl | rfl | rfl
  · exact w_c0
  · exact w_c1
  · exact w_c2
  · exact w_c3
  · exact w_c4
  · exact w_c5
  · exact w_c6
set_option maxRecDepth 65536 in
theorem w_t1 : (words1.take 24).all (fun c => isCode c || c.before args0 about1) = true := by decide +kernel
set_option maxRecDepth 65536 in
theorem w_t2 : (words1.drop 24).all (fun c => isCode c || c.before args0 about1) = true := by decide +kernel
theorem w_tables : (allAtoms (Jvm.Cond.code x code maxLocals ret :: tables_1)).before args0 about1 = true := by
  rw [allAtoms_all]
  show words1.all (fun c => c.before args0 about1) = true
  refine all_split ?_ w_codes
  rw [← List.take_append_drop 24 words1, List.all_append, w_t1, w_t2]
  rfl
set_option maxRecDepth 65536 in
theorem w_case : (Jvm.Cond.and given_1 narrow_1).before args0 about1 = true := by decide +kernel
theorem w_applies : (headSpec (Jvm.Cond.code x code maxLocals ret :: tables_1) room_1).applies x e0.platform about1 = true :=
  (Spec.applies_iff w_frames).mpr ⟨w_running, w_runnable, w_alone, w_named, w_hears, w_ripe, w_room, w_tables⟩
theorem atStart : AtStart classFile x code maxLocals ret World_1 tables_1 room_1 Calls_1 rest_1 Pre_1 launch0 p0 e0 about1 theMethod args0 below0 :=
  ⟨lists_1, trivial, launch0.admits_env _ _ _, launch0.least_env, fairChoices_fair.cas, fairChoices_fair.clock, w_frames, w_args, w_heap, w_applies, trivial, trivial, w_case⟩
end start1
theorem witness_1 : WitnessClaimed_1 := ⟨start1.p0, start1.e0, start1.about1, start1.theMethod, start1.args0, start1.below0, start1.atStart⟩
end Jvm.Pilot.@@N@@
