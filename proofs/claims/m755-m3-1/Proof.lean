import JvmDerived
import JvmDerived.Pilot.@@N@@Statement
import JvmDerived.Pilot.@@N@@Code
set_option linter.unusedVariables false
set_option linter.unusedSimpArgs false
namespace Jvm.Pilot.@@N@@
open Jvm Jvm.ClassFile Sem Op Lib Jvm.Free Jvm.Stand Jvm.LawKit Jvm.RoadKit Bundle Jvm.Pilot.@@N@@.Jvm.D
/-- from the state A the run comes to an end of which R holds -/
def own_Fin (tb : Tables) (e : Env) (below : List Frame) (A : State) (R : State → Outcome → Prop) : Prop := ∃ s₂ o, Steps tb e below A s₂ ∧ R s₂ o
theorem own_in {tb : Tables} {e : Env} {below : List Frame} {A : State} {R : State → Outcome → Prop} (h : own_Fin tb e below A R) : ∃ s₂ o, Steps tb e below A s₂ ∧ R s₂ o := h
theorem own_go {tb : Tables} {e : Env} {below : List Frame} {A B : State} {R : State → Outcome → Prop} (st : ∀ t, Steps tb e below B t → Steps tb e below A t) (h : own_Fin tb e below B R) : own_Fin tb e below A R := by
  obtain ⟨s₂, o, h1, h2⟩ := h
  exact ⟨s₂, o, st _ h1, h2⟩
theorem own_beqT {P : Prop} [Decidable P] (h : ¬ P) : ifCond.holds .eq (if P then (1 : Int32) else 0) = true := by rw [if_neg h]; rfl
theorem own_beqF {P : Prop} [Decidable P] (h : P) : ifCond.holds .eq (if P then (1 : Int32) else 0) = false := by rw [if_pos h]; rfl
theorem own_bneT {P : Prop} [Decidable P] (h : P) : ifCond.holds .ne (if P then (1 : Int32) else 0) = true := by rw [if_pos h]; rfl
theorem own_bneF {P : Prop} [Decidable P] (h : ¬ P) : ifCond.holds .ne (if P then (1 : Int32) else 0) = false := by rw [if_neg h]; rfl
theorem own_bEq {P R : Prop} [Decidable P] [Decidable R] (h : P ↔ R) : (if P then (1 : Int32) else 0) = (if R then (1 : Int32) else 0) := by
  by_cases p : P
  · rw [if_pos p, if_pos (h.mp p)]
  · rw [if_neg p, if_neg fun r => p (h.mpr r)]
theorem own_bNe {P R : Prop} [Decidable P] [Decidable R] (h : ¬ (P ↔ R)) : ¬ (if P then (1 : Int32) else 0) = (if R then (1 : Int32) else 0) := by
  intro q
  apply h
  by_cases p : P <;> by_cases r : R
  · exact ⟨fun _ => r, fun _ => p⟩
  · rw [if_pos p, if_neg r] at q; exact absurd q (by decide)
  · rw [if_neg p, if_pos r] at q; exact absurd q (by decide)
  · exact ⟨fun x => absurd x p, fun x => absurd x r⟩
theorem own_fitB {P : Prop} [Decidable P] : fits .boolean (.int (if P then (1 : Int32) else 0)) = true := by by_cases p : P <;> simp only [p, if_true, if_false] <;> rfl
theorem own_narB {P : Prop} [Decidable P] : narrow .boolean (.int (if P then (1 : Int32) else 0)) = .int (if P then (1 : Int32) else 0) := by by_cases p : P <;> simp only [p, if_true, if_false] <;> rfl
abbrev own_I (n : Nat) : Int32 := Int32.ofNat n
def own_V (n : Nat) : Value := .int (own_I n)
def own_lab (n m k : Nat) : Nat := (n * m + k) % 5
def own_it (pl : List Nat) : Nat → Nat → Nat
  | 0, x => x
  | n + 1, x => own_it pl n (pl.getD x 0)
theorem own_it_fix {pl : List Nat} {x : Nat} (h : pl.getD x 0 = x) : ∀ n, own_it pl n x = x
  | 0 => rfl
  | n + 1 => by show own_it pl n (pl.getD x 0) = x; rw [h]; exact own_it_fix h n
theorem own_labE {n m k : Nat} (hn : n < 5) (hm : m < 5) (hk : k < 5) : ((own_I n * own_I m) + own_I k) % (5 : Int32) = own_I (own_lab n m k) :=
  (by decide +kernel : ∀ (n m k : Fin 5), ((own_I n.1 * own_I m.1) + own_I k.1) % (5 : Int32) = own_I (own_lab n.1 m.1 k.1)) ⟨n, hn⟩ ⟨m, hm⟩ ⟨k, hk⟩
theorem own_lab5 (n m k : Nat) : own_lab n m k < 5 := Nat.mod_lt _ (by decide)
theorem own_inB {x : Nat} (h : x < 5) : ¬ own_I x < 0 ∧ own_I x < (5 : Int32) := (by decide +kernel : ∀ x : Fin 5, ¬ own_I x.1 < 0 ∧ own_I x.1 < (5 : Int32)) ⟨x, h⟩
theorem own_nat {x : Nat} (h : x < 5) : (own_I x).toNatClampNeg = x := (by decide +kernel : ∀ x : Fin 5, (own_I x.1).toNatClampNeg = x.1) ⟨x, h⟩
theorem own_inj {x y : Nat} (hx : x < 5) (hy : y < 5) (h : own_I x = own_I y) : x = y := (by decide +kernel : ∀ x y : Fin 5, own_I x.1 = own_I y.1 → x.1 = y.1) ⟨x, hx⟩ ⟨y, hy⟩ h
theorem own_getD (l : List Nat) {x : Nat} (h : x < 5) : (l.map own_V).getD (own_I x).toNatClampNeg (.int (0 : Int32)) = .int (own_I (l.getD x 0)) := by
  rw [own_nat h, List.getD_eq_getElem?_getD, List.getD_eq_getElem?_getD, List.getElem?_map]
  cases l[x]? <;> rfl
theorem own_lt {l : List Nat} (h : ∀ y ∈ l, y < 5) (x : Nat) : l.getD x 0 < 5 := by
  rw [List.getD_eq_getElem?_getD]
  cases e : l[x]? with
  | none => exact (by decide : 0 < 5)
  | some y => exact h y (List.mem_of_getElem? e)
theorem own_smod (x : Int32) (d : Nat) (D : Int32) (hD : D.toInt = d) (h0 : 0 < d) (h5 : d ≤ 5) : ∃ n : Nat, n < d ∧ (x &&& (2147483647 : Int32)) % D = own_I n := by
  have e := c_mask x 2147483647 31 (by decide) (by decide)
  have l4 : ((2 ^ 31 : Nat) : Int) = 2147483648 := by decide
  rw [l4] at e
  have q := (c_irem (x &&& 2147483647) D d hD).1 (by omega)
  have q1 := Int.emod_nonneg (x &&& 2147483647).toInt (show (d : Int) ≠ 0 by omega)
  have q2 := Int.emod_lt_of_pos (x &&& 2147483647).toInt (show 0 < (d : Int) by omega)
  refine ⟨((x &&& 2147483647) % D).toInt.toNat, by omega, ?_⟩
  apply Int32.toInt_inj.mp
  show _ = (Int32.ofNat _).toInt
  rw [Int32.toInt_ofNat_of_lt (by omega)]
  omega
theorem own_sand (x : Int32) (k : Nat) (D : Int32) (hk : k ≤ 2) (hD : D.toBitVec.toNat = 2 ^ k - 1) : ∃ n : Nat, n < 2 ^ k ∧ x &&& D = own_I n := by
  have e := c_mask x D k (by omega) hD
  have hk2 : k = 0 ∨ k = 1 ∨ k = 2 := by omega
  have hp : 2 ^ k ≤ 2 ^ 2 := Nat.pow_le_pow_right (by decide) hk
  have hp0 : 0 < 2 ^ k := Nat.pos_of_ne_zero (by have := Nat.one_le_two_pow (n := k); omega)
  have q1 := Int.emod_nonneg x.toInt (show ((2 ^ k : Nat) : Int) ≠ 0 by omega)
  have q2 := Int.emod_lt_of_pos x.toInt (show 0 < ((2 ^ k : Nat) : Int) by omega)
  refine ⟨(x &&& D).toInt.toNat, by omega, ?_⟩
  apply Int32.toInt_inj.mp
  show _ = (Int32.ofNat _).toInt
  rw [Int32.toInt_ofNat_of_lt (by omega)]
  omega
def own_par (m k q1 q2 q3 q4 : Nat) : List Nat := ((((([0, 0, 0, 0, 0] : List Nat).set (own_lab 0 m k) (own_lab 0 m k)).set (own_lab 1 m k) (own_lab q1 m k)).set (own_lab 2 m k) (own_lab q2 m k)).set (own_lab 3 m k) (own_lab q3 m k)).set (own_lab 4 m k) (own_lab q4 m k)
def own_qq (q1 q2 q3 q4 r : Nat) : Nat := ([0, q1, q2, q3, q4] : List Nat).getD r 0
theorem own_parAt {m k i : Nat} (hm : m < 4) (hk : k < 5) (hi : i < 5) (q1 q2 q3 q4 : Nat) : (own_par (m + 1) k q1 q2 q3 q4).getD (own_lab i (m + 1) k) 0 = own_lab (own_qq q1 q2 q3 q4 i) (m + 1) k := by
  rcases (by omega : m = 0 ∨ m = 1 ∨ m = 2 ∨ m = 3) with rfl | rfl | rfl | rfl <;> rcases (by omega : k = 0 ∨ k = 1 ∨ k = 2 ∨ k = 3 ∨ k = 4) with rfl | rfl | rfl | rfl | rfl <;> rcases (by omega : i = 0 ∨ i = 1 ∨ i = 2 ∨ i = 3 ∨ i = 4) with rfl | rfl | rfl | rfl | rfl <;> rfl
theorem own_qfix {q1 q2 q3 q4 r : Nat} (h1 : q1 < 2) (h2 : q2 < 3) (h3 : q3 < 4) (h4 : q4 < 5) (hr : r < 5) :
    own_qq q1 q2 q3 q4 (own_qq q1 q2 q3 q4 (own_qq q1 q2 q3 q4 (own_qq q1 q2 q3 q4 (own_qq q1 q2 q3 q4 r)))) = own_qq q1 q2 q3 q4 (own_qq q1 q2 q3 q4 (own_qq q1 q2 q3 q4 (own_qq q1 q2 q3 q4 r))) :=
  (by decide +kernel : ∀ (q1 : Fin 2) (q2 : Fin 3) (q3 : Fin 4) (q4 : Fin 5) (r : Fin 5), own_qq q1.1 q2.1 q3.1 q4.1 (own_qq q1.1 q2.1 q3.1 q4.1 (own_qq q1.1 q2.1 q3.1 q4.1 (own_qq q1.1 q2.1 q3.1 q4.1 (own_qq q1.1 q2.1 q3.1 q4.1 r.1)))) = own_qq q1.1 q2.1 q3.1 q4.1 (own_qq q1.1 q2.1 q3.1 q4.1 (own_qq q1.1 q2.1 q3.1 q4.1 (own_qq q1.1 q2.1 q3.1 q4.1 r.1)))) ⟨q1, h1⟩ ⟨q2, h2⟩ ⟨q3, h3⟩ ⟨q4, h4⟩ ⟨r, hr⟩
theorem own_law {m k q1 q2 q3 q4 r : Nat} (hm : m < 4) (hk : k < 5) (h1 : q1 < 2) (h2 : q2 < 3) (h3 : q3 < 4) (h4 : q4 < 5) (hr : r < 5) :
    own_it (own_par (m + 1) k q1 q2 q3 q4) 4 (own_lab r (m + 1) k) = own_lab (own_qq q1 q2 q3 q4 (own_qq q1 q2 q3 q4 (own_qq q1 q2 q3 q4 (own_qq q1 q2 q3 q4 r)))) (m + 1) k ∧
    (own_par (m + 1) k q1 q2 q3 q4).getD (own_it (own_par (m + 1) k q1 q2 q3 q4) 4 (own_lab r (m + 1) k)) 0 = own_it (own_par (m + 1) k q1 q2 q3 q4) 4 (own_lab r (m + 1) k) := by
  have hq : ∀ y ∈ ([0, q1, q2, q3, q4] : List Nat), y < 5 := by
    intro y hy
    simp only [List.mem_cons, List.not_mem_nil, or_false] at hy
    omega
  have lt : ∀ i, own_qq q1 q2 q3 q4 i < 5 := fun i => own_lt hq i
  have e : own_it (own_par (m + 1) k q1 q2 q3 q4) 4 (own_lab r (m + 1) k) = own_lab (own_qq q1 q2 q3 q4 (own_qq q1 q2 q3 q4 (own_qq q1 q2 q3 q4 (own_qq q1 q2 q3 q4 r)))) (m + 1) k := by
    show (own_par (m + 1) k q1 q2 q3 q4).getD ((own_par (m + 1) k q1 q2 q3 q4).getD ((own_par (m + 1) k q1 q2 q3 q4).getD ((own_par (m + 1) k q1 q2 q3 q4).getD (own_lab r (m + 1) k) 0) 0) 0) 0 = _
    rw [own_parAt hm hk hr, own_parAt hm hk (lt _), own_parAt hm hk (lt _), own_parAt hm hk (lt _)]
  refine ⟨e, ?_⟩
  rw [e, own_parAt hm hk (lt _), own_qfix h1 h2 h3 h4 hr]
theorem own_par5 (m k q1 q2 q3 q4 : Nat) : ∀ y ∈ own_par m k q1 q2 q3 q4, y < 5 := by
  intro y hy
  unfold own_par at hy
  rcases List.mem_or_eq_of_mem_set hy with hy | rfl
  · rcases List.mem_or_eq_of_mem_set hy with hy | rfl
    · rcases List.mem_or_eq_of_mem_set hy with hy | rfl
      · rcases List.mem_or_eq_of_mem_set hy with hy | rfl
        · rcases List.mem_or_eq_of_mem_set hy with hy | rfl
          · exact (by decide : ∀ y ∈ ([0, 0, 0, 0, 0] : List Nat), y < 5) y hy
          · exact own_lab5 _ _ _
        · exact own_lab5 _ _ _
      · exact own_lab5 _ _ _
    · exact own_lab5 _ _ _
  · exact own_lab5 _ _ _
theorem own_add1 {m : Nat} (h : m < 4) : (1 : Int32) + own_I m = own_I (m + 1) := (by decide +kernel : ∀ m : Fin 4, (1 : Int32) + own_I m.1 = own_I (m.1 + 1)) ⟨m, h⟩
theorem own_set5 {Z : State} {h : Heap} {a : Addr} {kc : ClassId} {pl : List Nat} {i x : Nat} (F : Arv Z h a kc .int (5 : Int32) ((pl.map own_V).set i (own_V x)) (.int (0 : Int32))) : Arv Z h a kc .int (5 : Int32) ((pl.set i x).map own_V) (.int (0 : Int32)) := by rw [List.map_set]; exact F
theorem d1_0 : decode method_2_code 0 = .ok (.iload_n 0, 1) := by decide +kernel
theorem d1_1 : decode method_2_code 1 = .ok (.iload_n 1, 1) := by decide +kernel
theorem d1_2 : decode method_2_code 2 = .ok (.imul, 1) := by decide +kernel
theorem d1_3 : decode method_2_code 3 = .ok (.iload_n 2, 1) := by decide +kernel
theorem d1_4 : decode method_2_code 4 = .ok (.iadd, 1) := by decide +kernel
theorem d1_5 : decode method_2_code 5 = .ok (.iconst 5, 1) := by decide +kernel
theorem d1_6 : decode method_2_code 6 = .ok (.irem, 1) := by decide +kernel
theorem d1_7 : decode method_2_code 7 = .ok (.ireturn, 1) := by decide +kernel
theorem pn1 : plainName "com/example/subsumption/subsumption/tableau/IntegerProgramRootPinLaw" = true := by first | (simp [plainName, overriddenIn]; done) | decide +kernel
theorem ef1 (m : MethodId) (n : Nat) (m' : Nat) (k' : Nat) : entryFrame m #[(.int (own_I n)), (.int (own_I m')), (.int (own_I k'))] 3 = mkF m 0 #[.val (.int (own_I n)), .val (.int (own_I m')), .val (.int (own_I k'))] [] := by first | (simp [entryFrame, mkF, argsToLocals, Value.category]; done) | rfl
def Q1 (Z : State) (n : Nat) (m' : Nat) (k' : Nat) (h0 : Heap) (n0 : Nat) (v : Option Value) (h : Heap) (L : List Loc) : Prop := v = some (.int (own_I (own_lab n m' k'))) ∧ Fr n0 L ∧ h = h0
set_option maxRecDepth 65536 in
set_option maxHeartbeats 40000000 in
theorem rm1 (l : Launch) (Z : State) (a0 : Array Value) (hw : ∀ d ∈ tables_1, d.before a0 Z = true) (ws : List Jvm.Cond) (n : Nat) (m' : Nat) (k' : Nat) (h0 : Heap) (n0 : Nat) (Z0 : n0 ≤ h0.size) (hn : n < 5) (hm : m' < 5) (hk : k' < 5) :
    MetFree l (⟨"com/example/subsumption/subsumption/tableau/IntegerProgramRootPinLaw", "lab", "(III)I"⟩ : MethodName) (head1 (Jvm.Cond.code (⟨"com/example/subsumption/subsumption/tableau/IntegerProgramRootPinLaw", "lab", "(III)I"⟩ : MethodName) method_2_code 3 (some .int) :: ws) ({ frames := 0, cells := 0, slots := 0, locals := 0 } : Room)) (fun a U => a = #[(.int (own_I n)), (.int (own_I m')), (.int (own_I k'))] ∧ Z.Warmed39 U.vm ∧ U.heap = h0) (fun _ _ _ _ _ => True) (fun _ U o U' => ∃ v L, o = .returned v ∧ Q1 Z n m' k' h0 n0 v U'.heap L ∧ FrameEnd U o U' L ({ frames := 0, cells := 0, slots := 0, locals := 0 } : Room).cells ({ frames := 0, cells := 0, slots := 0, locals := 0 } : Room).slots) := by
  refine MetFree.of_bodySF (plainFor_of_name pn1) hisR ?_
  intro p e s m args below meth c s₁ Bd hml0 hP hK
  obtain ⟨rfl, hZ, hh⟩ := hP
  have hx := Bd.exec
  have hby := Bd.bytes
  have hml : c.maxLocals = 3 := hml0
  have hown : s.vm.findClass "com/example/subsumption/subsumption/tableau/IntegerProgramRootPinLaw" = some m.cls := findClass_of_methodNamed Bd.named
  have hnm := (name_of_methodNamed Bd.named Bd.method).1
  have X0 : Stand p l e ({ frames := 0, cells := 0, slots := 0, locals := 0 } : Room) s m #[(.int (own_I n)), (.int (own_I m')), (.int (own_I k'))] below meth c s₁ [] 0 0 := Stand.of_body Bd
  have e0 : s₁.heap = h0 := by rw [← hh, Bd.state]; rfl
  have N0 := Fr.nil n0
  have K0 : Keep h0 h0 [] := Keep.refl h0 _
  refine own_in ?_
  refine own_go (B := s₁.setTop (mkF m 0 #[.val (.int (own_I n)), .val (.int (own_I m')), .val (.int (own_I k'))] [])) (fun t k => castTop (ef1 m n m' k') k) ?_
  refine own_go (B := s₁.setTop (mkF m 7 #[.val (.int (own_I n)), .val (.int (own_I m')), .val (.int (own_I k'))] [(.int ((((own_I n) * (own_I m')) + (own_I k')) % (5 : Int32)))])) (fun t k => ?_) ?_
  · show Steps p.tables e below (s₁.setTop (mkF m 0 #[.val (.int (own_I n)), .val (.int (own_I m')), .val (.int (own_I k'))] [])) t
    refine XS.iloadN X0.here hx rfl (hb hby d1_0) rfl ?_
    refine XS.iloadN X0.here hx rfl (hb hby d1_1) rfl ?_
    refine XS.imul X0.here hx rfl (hb hby d1_2) rfl ?_
    refine XS.iloadN X0.here hx rfl (hb hby d1_3) rfl ?_
    show Steps p.tables e below (s₁.setTop (mkF m 4 #[.val (.int (own_I n)), .val (.int (own_I m')), .val (.int (own_I k'))] [(.int (own_I k')), (.int ((own_I n) * (own_I m')))])) t
    refine XS.iadd X0.here hx rfl (hb hby d1_4) rfl ?_
    refine XS.iconst X0.here hx rfl (hb hby d1_5) ?_
    refine Jvm.RoadKit.iremM X0 hx rfl (hb hby d1_6) rfl (by decide) ?_
    exact k
  refine own_go (B := s₁.setTop (mkF m 7 #[.val (.int (own_I n)), .val (.int (own_I m')), .val (.int (own_I k'))] [(.int (own_I (own_lab n m' k')))])) (fun t k => (congrArg (fun z => Steps p.tables e below (s₁.setTop (mkF m 7 #[.val (.int (own_I n)), .val (.int (own_I m')), .val (.int (own_I k'))] [(.int z)])) t) (own_labE hn hm hk)).mpr k) ?_
  obtain ⟨fs, hr, hrun, hended, hW, hsame⟩ := X0.leave (v := some (.int (own_I (own_lab n m' k')))) (fun h => by rw [Bd.returns] at h; cases h)
  refine ⟨_, _, ?_, hrun, hended, _, _, rfl, ?_, ⟨_, rfl⟩, hW, hsame.mono (by decide) (by decide)⟩
  · exact retOut X0 hx (t := .int) Bd.returns rfl (Or.inl ⟨rfl, by simp, _, rfl⟩) (hb hby d1_7) hr
  · show Q1 Z n m' k' h0 n0 _ s₁.heap _
    rw [e0]
    exact ⟨rfl, N0, rfl⟩
theorem d2_0 : decode prog_98_method_7_code 0 = .ok (.iload_n 1, 1) := by decide +kernel
theorem d2_1 : decode prog_98_method_7_code 1 = .ok (.istore_n 2, 1) := by decide +kernel
theorem d2_2 : decode prog_98_method_7_code 2 = .ok (.aload_n 0, 1) := by decide +kernel
theorem d2_3 : decode prog_98_method_7_code 3 = .ok (.iload_n 2, 1) := by decide +kernel
theorem d2_4 : decode prog_98_method_7_code 4 = .ok (.iaload, 1) := by decide +kernel
theorem d2_5 : decode prog_98_method_7_code 5 = .ok (.iload_n 2, 1) := by decide +kernel
theorem d2_6 : decode prog_98_method_7_code 6 = .ok (.if_icmp .eq 10, 3) := by decide +kernel
theorem d2_9 : decode prog_98_method_7_code 9 = .ok (.aload_n 0, 1) := by decide +kernel
theorem d2_10 : decode prog_98_method_7_code 10 = .ok (.iload_n 2, 1) := by decide +kernel
theorem d2_11 : decode prog_98_method_7_code 11 = .ok (.iaload, 1) := by decide +kernel
theorem d2_12 : decode prog_98_method_7_code 12 = .ok (.istore_n 2, 1) := by decide +kernel
theorem d2_13 : decode prog_98_method_7_code 13 = .ok (.goto (-11), 3) := by decide +kernel
theorem d2_16 : decode prog_98_method_7_code 16 = .ok (.iload_n 2, 1) := by decide +kernel
theorem d2_17 : decode prog_98_method_7_code 17 = .ok (.ireturn, 1) := by decide +kernel
theorem pn2 : plainName "com/example/subsumption/subsumption/tableau/IntegerProgram" = true := by first | (simp [plainName, overriddenIn]; done) | decide +kernel
theorem ef2 (m : MethodId) (r0 : Addr) (x0 : Nat) : entryFrame m #[(.ref r0), (.int (own_I x0))] 3 = mkF m 0 #[.val (.ref r0), .val (.int (own_I x0)), .unset] [] := by first | (simp [entryFrame, mkF, argsToLocals, Value.category]; done) | rfl
def Q2 (Z : State) (r0 : Addr) (x0 : Nat) (kc : ClassId) (pl : List Nat) (h0 : Heap) (n0 : Nat) (v : Option Value) (h : Heap) (L : List Loc) : Prop := v = some (.int (own_I (own_it pl 4 x0))) ∧ Fr n0 L ∧ h = h0
set_option maxRecDepth 65536 in
set_option maxHeartbeats 40000000 in
theorem rm2 (l : Launch) (Z : State) (a0 : Array Value) (hw : ∀ d ∈ tables_1, d.before a0 Z = true) (ws : List Jvm.Cond) (r0 : Addr) (x0 : Nat) (kc : ClassId) (pl : List Nat) (h0 : Heap) (n0 : Nat) (Z0 : n0 ≤ h0.size) (V0 : Arv Z h0 r0 kc .int (5 : Int32) (pl.map own_V) (.int (0 : Int32))) (hpl : ∀ y ∈ pl, y < 5) (hx0 : x0 < 5) (hfix : pl.getD (own_it pl 4 x0) 0 = own_it pl 4 x0) :
    MetFree l (⟨"com/example/subsumption/subsumption/tableau/IntegerProgram", "root", "([II)I"⟩ : MethodName) (head1 (Jvm.Cond.code (⟨"com/example/subsumption/subsumption/tableau/IntegerProgram", "root", "([II)I"⟩ : MethodName) prog_98_method_7_code 3 (some .int) :: ws) ({ frames := 0, cells := 0, slots := 0, locals := 0 } : Room)) (fun a U => a = #[(.ref r0), (.int (own_I x0))] ∧ Z.Warmed39 U.vm ∧ U.heap = h0) (fun _ _ _ _ _ => True) (fun _ U o U' => ∃ v L, o = .returned v ∧ Q2 Z r0 x0 kc pl h0 n0 v U'.heap L ∧ FrameEnd U o U' L ({ frames := 0, cells := 0, slots := 0, locals := 0 } : Room).cells ({ frames := 0, cells := 0, slots := 0, locals := 0 } : Room).slots) := by
  refine MetFree.of_bodySF (plainFor_of_name pn2) hisR ?_
  intro p e s m args below meth c s₁ Bd hml0 hP hK
  obtain ⟨rfl, hZ, hh⟩ := hP
  have hx := Bd.exec
  have hby := Bd.bytes
  have hml : c.maxLocals = 3 := hml0
  have hown : s.vm.findClass "com/example/subsumption/subsumption/tableau/IntegerProgram" = some m.cls := findClass_of_methodNamed Bd.named
  have hnm := (name_of_methodNamed Bd.named Bd.method).1
  have X0 : Stand p l e ({ frames := 0, cells := 0, slots := 0, locals := 0 } : Room) s m #[(.ref r0), (.int (own_I x0))] below meth c s₁ [] 0 0 := Stand.of_body Bd
  have e0 : s₁.heap = h0 := by rw [← hh, Bd.state]; rfl
  have N0 := Fr.nil n0
  have K0 : Keep h0 h0 [] := Keep.refl h0 _
  refine own_in ?_
  refine own_go (B := s₁.setTop (mkF m 0 #[.val (.ref r0), .val (.int (own_I x0)), .unset] [])) (fun t k => castTop (ef2 m r0 x0) k) ?_
  refine own_go (B := s₁.setTop (mkF m 2 #[.val (.ref r0), .val (.int (own_I x0)), .val (.int (own_I x0))] [])) (fun t k => ?_) ?_
  · show Steps p.tables e below (s₁.setTop (mkF m 0 #[.val (.ref r0), .val (.int (own_I x0)), .unset] [])) t
    refine XS.iloadN X0.here hx rfl (hb hby d2_0) rfl ?_
    refine XS.istoreN X0.here hx rfl (hb hby d2_1) rfl (l' := #[.val (.ref r0), .val (.int (own_I x0)), .val (.int (own_I x0))]) rfl ?_
    exact k
  obtain ⟨cl, Ar, -, S0, M0, Ha, -⟩ := V0
  have hin : ∀ x, x < 5 → ¬ (own_I x < 0 ∨ cl.slots.size ≤ (own_I x).toNatClampNeg) := fun x hx => inb_of S0 (own_inB hx)
  have hat : ∀ x, x < 5 → cl.slots[(own_I x).toNatClampNeg]? = some (.int (own_I (pl.getD x 0))) := fun x hx => Has.at Ha (hin x hx) (own_getD pl hx)
  have loop : ∀ (n x : Nat), x < 5 → pl.getD (own_it pl n x) 0 = own_it pl n x → ∀ t, Steps p.tables e below (s₁.setTop (mkF m 16 #[.val (.ref r0), .val (.int (own_I x0)), .val (.int (own_I (own_it pl n x)))] [])) t → Steps p.tables e below (s₁.setTop (mkF m 2 #[.val (.ref r0), .val (.int (own_I x0)), .val (.int (own_I x))] [])) t := by
    intro n
    induction n with
    | zero =>
      intro x hx5 hf t k
      have hf' : pl.getD x 0 = x := hf
      show Steps p.tables e below (s₁.setTop (mkF m 2 #[.val (.ref r0), .val (.int (own_I x0)), .val (.int (own_I x))] [])) t
      refine XS.aloadN X0.here hx rfl (hb hby d2_2) rfl rfl ?_
      show Steps p.tables e below (s₁.setTop (mkF m 3 #[.val (.ref r0), .val (.int (own_I x0)), .val (.int (own_I x))] [(.ref r0)])) t
      refine XS.iloadN X0.here hx rfl (hb hby d2_3) rfl ?_
      show Steps p.tables e below (s₁.setTop (mkF m 4 #[.val (.ref r0), .val (.int (own_I x0)), .val (.int (own_I x))] [(.int (own_I x)), (.ref r0)])) t
      refine X0.iaload hx (j := (own_I x)) (v := (.int (own_I (pl.getD x 0)))) (by rw [e0]; exact Ar.1) (State.isArrayOf_alike hZ.alike Ar.2.1) Ar.2.2 (hin x hx5) (hat x hx5) (g := (mkF m 4 #[.val (.ref r0), .val (.int (own_I x0)), .val (.int (own_I x))] [(.int (own_I x)), (.ref r0)])) rfl rfl (hb hby d2_4) _ ?_
      show Steps p.tables e below (s₁.setTop (mkF m 5 #[.val (.ref r0), .val (.int (own_I x0)), .val (.int (own_I x))] [(.int (own_I (pl.getD x 0)))])) t
      refine XS.iloadN X0.here hx rfl (hb hby d2_5) rfl ?_
      show Steps p.tables e below (s₁.setTop (mkF m 6 #[.val (.ref r0), .val (.int (own_I x0)), .val (.int (own_I x))] [(.int (own_I x)), (.int (own_I (pl.getD x 0)))])) t
      refine XS.icmpYes X0.here hx rfl (pc0 := 6) (pc' := 16) rfl (hb hby d2_6) rfl (teq (congrArg own_I hf')).1 (by decide) (by decide) ?_
      exact k
    | succ n ih =>
      intro x hx5 hf t k
      by_cases hq : own_I (pl.getD x 0) = own_I x
      · have hq' := own_inj (own_lt hpl x) hx5 hq
        rw [own_it_fix hq' (n + 1)] at k
        show Steps p.tables e below (s₁.setTop (mkF m 2 #[.val (.ref r0), .val (.int (own_I x0)), .val (.int (own_I x))] [])) t
        refine XS.aloadN X0.here hx rfl (hb hby d2_2) rfl rfl ?_
        show Steps p.tables e below (s₁.setTop (mkF m 3 #[.val (.ref r0), .val (.int (own_I x0)), .val (.int (own_I x))] [(.ref r0)])) t
        refine XS.iloadN X0.here hx rfl (hb hby d2_3) rfl ?_
        show Steps p.tables e below (s₁.setTop (mkF m 4 #[.val (.ref r0), .val (.int (own_I x0)), .val (.int (own_I x))] [(.int (own_I x)), (.ref r0)])) t
        refine X0.iaload hx (j := (own_I x)) (v := (.int (own_I (pl.getD x 0)))) (by rw [e0]; exact Ar.1) (State.isArrayOf_alike hZ.alike Ar.2.1) Ar.2.2 (hin x hx5) (hat x hx5) (g := (mkF m 4 #[.val (.ref r0), .val (.int (own_I x0)), .val (.int (own_I x))] [(.int (own_I x)), (.ref r0)])) rfl rfl (hb hby d2_4) _ ?_
        show Steps p.tables e below (s₁.setTop (mkF m 5 #[.val (.ref r0), .val (.int (own_I x0)), .val (.int (own_I x))] [(.int (own_I (pl.getD x 0)))])) t
        refine XS.iloadN X0.here hx rfl (hb hby d2_5) rfl ?_
        show Steps p.tables e below (s₁.setTop (mkF m 6 #[.val (.ref r0), .val (.int (own_I x0)), .val (.int (own_I x))] [(.int (own_I x)), (.int (own_I (pl.getD x 0)))])) t
        refine XS.icmpYes X0.here hx rfl (pc0 := 6) (pc' := 16) rfl (hb hby d2_6) rfl (teq hq).1 (by decide) (by decide) ?_
        exact k
      · skip
        show Steps p.tables e below (s₁.setTop (mkF m 2 #[.val (.ref r0), .val (.int (own_I x0)), .val (.int (own_I x))] [])) t
        refine XS.aloadN X0.here hx rfl (hb hby d2_2) rfl rfl ?_
        show Steps p.tables e below (s₁.setTop (mkF m 3 #[.val (.ref r0), .val (.int (own_I x0)), .val (.int (own_I x))] [(.ref r0)])) t
        refine XS.iloadN X0.here hx rfl (hb hby d2_3) rfl ?_
        show Steps p.tables e below (s₁.setTop (mkF m 4 #[.val (.ref r0), .val (.int (own_I x0)), .val (.int (own_I x))] [(.int (own_I x)), (.ref r0)])) t
        refine X0.iaload hx (j := (own_I x)) (v := (.int (own_I (pl.getD x 0)))) (by rw [e0]; exact Ar.1) (State.isArrayOf_alike hZ.alike Ar.2.1) Ar.2.2 (hin x hx5) (hat x hx5) (g := (mkF m 4 #[.val (.ref r0), .val (.int (own_I x0)), .val (.int (own_I x))] [(.int (own_I x)), (.ref r0)])) rfl rfl (hb hby d2_4) _ ?_
        show Steps p.tables e below (s₁.setTop (mkF m 5 #[.val (.ref r0), .val (.int (own_I x0)), .val (.int (own_I x))] [(.int (own_I (pl.getD x 0)))])) t
        refine XS.iloadN X0.here hx rfl (hb hby d2_5) rfl ?_
        show Steps p.tables e below (s₁.setTop (mkF m 6 #[.val (.ref r0), .val (.int (own_I x0)), .val (.int (own_I x))] [(.int (own_I x)), (.int (own_I (pl.getD x 0)))])) t
        refine XS.icmpNo X0.here hx rfl (hb hby d2_6) rfl (feq hq).1 ?_
        show Steps p.tables e below (s₁.setTop (mkF m 9 #[.val (.ref r0), .val (.int (own_I x0)), .val (.int (own_I x))] [])) t
        refine XS.aloadN X0.here hx rfl (hb hby d2_9) rfl rfl ?_
        show Steps p.tables e below (s₁.setTop (mkF m 10 #[.val (.ref r0), .val (.int (own_I x0)), .val (.int (own_I x))] [(.ref r0)])) t
        refine XS.iloadN X0.here hx rfl (hb hby d2_10) rfl ?_
        show Steps p.tables e below (s₁.setTop (mkF m 11 #[.val (.ref r0), .val (.int (own_I x0)), .val (.int (own_I x))] [(.int (own_I x)), (.ref r0)])) t
        refine X0.iaload hx (j := (own_I x)) (v := (.int (own_I (pl.getD x 0)))) (by rw [e0]; exact Ar.1) (State.isArrayOf_alike hZ.alike Ar.2.1) Ar.2.2 (hin x hx5) (hat x hx5) (g := (mkF m 11 #[.val (.ref r0), .val (.int (own_I x0)), .val (.int (own_I x))] [(.int (own_I x)), (.ref r0)])) rfl rfl (hb hby d2_11) _ ?_
        show Steps p.tables e below (s₁.setTop (mkF m 12 #[.val (.ref r0), .val (.int (own_I x0)), .val (.int (own_I x))] [(.int (own_I (pl.getD x 0)))])) t
        refine XS.istoreN X0.here hx rfl (hb hby d2_12) rfl (l' := #[.val (.ref r0), .val (.int (own_I x0)), .val (.int (own_I (pl.getD x 0)))]) rfl ?_
        show Steps p.tables e below (s₁.setTop (mkF m 13 #[.val (.ref r0), .val (.int (own_I x0)), .val (.int (own_I (pl.getD x 0)))] [])) t
        refine XS.goto X0.here hx rfl (pc0 := 13) (pc' := 2) rfl (hb hby d2_13) (by decide) (by decide) ?_
        exact ih _ (own_lt hpl x) hf t k
  refine own_go (loop 4 x0 hx0 hfix) ?_
  refine own_go (B := s₁.setTop (mkF m 17 #[.val (.ref r0), .val (.int (own_I x0)), .val (.int (own_I (own_it pl 4 x0)))] [(.int (own_I (own_it pl 4 x0)))])) (fun t k => ?_) ?_
  · show Steps p.tables e below (s₁.setTop (mkF m 16 #[.val (.ref r0), .val (.int (own_I x0)), .val (.int (own_I (own_it pl 4 x0)))] [])) t
    refine XS.iloadN X0.here hx rfl (hb hby d2_16) rfl ?_
    exact k
  obtain ⟨fs, hr, hrun, hended, hW, hsame⟩ := X0.leave (v := some (.int (own_I (own_it pl 4 x0)))) (fun h => by rw [Bd.returns] at h; cases h)
  refine ⟨_, _, ?_, hrun, hended, _, _, rfl, ?_, ⟨_, rfl⟩, hW, hsame.mono (by decide) (by decide)⟩
  · exact retOut X0 hx (t := .int) Bd.returns rfl (Or.inl ⟨rfl, by simp, _, rfl⟩) (hb hby d2_17) hr
  · show Q2 Z r0 x0 kc pl h0 n0 _ s₁.heap _
    rw [e0]
    exact ⟨rfl, N0, rfl⟩
theorem pn0 : plainName "com/example/subsumption/subsumption/tableau/IntegerProgramRootPinLaw" = true := by first | (simp [plainName, overriddenIn]; done) | decide +kernel
theorem pd0_0 : parseMethodDescriptor "(III)I" = some ⟨[.int, .int, .int], some .int⟩ := by decide +kernel
theorem pd0_1 : parseMethodDescriptor "([II)I" = some ⟨[(.array .int), .int], some .int⟩ := by decide +kernel
theorem ef0 (m : MethodId) (p0 : Int32) (p1 : Int32) (p2 : Int32) (p3 : Int32) (p4 : Int32) (p5 : Int32) : entryFrame m #[(.int p0), (.int p1), (.int p2), (.int p3), (.int p4), (.int p5)] maxLocals = mkF m 0 #[.val (.int p0), .val (.int p1), .val (.int p2), .val (.int p3), .val (.int p4), .val (.int p5), .unset, .unset, .unset, .unset, .unset, .unset, .unset] [] := by first | (simp [entryFrame, mkF, argsToLocals, Value.category, maxLocals]; done) | rfl
def Q0 (Z : State) (p0 : Int32) (p1 : Int32) (p2 : Int32) (p3 : Int32) (p4 : Int32) (p5 : Int32) (h0 : Heap) (n0 : Nat) (v : Option Value) (h : Heap) (L : List Loc) : Prop := v = some (.int 1) ∧ Fr n0 L
set_option maxRecDepth 65536 in
set_option maxHeartbeats 40000000 in
theorem rm0 (l : Launch) (Z : State) (a0 : Array Value) (hw : ∀ d ∈ tables_1, d.before a0 Z = true) (ws : List Jvm.Cond) (p0 : Int32) (p1 : Int32) (p2 : Int32) (p3 : Int32) (p4 : Int32) (p5 : Int32) (h0 : Heap) (n0 : Nat) (Z0 : n0 ≤ h0.size) :
    MetFree l x (head1 (Jvm.Cond.code x code maxLocals ret :: ws) room_1) (fun a U => a = #[(.int p0), (.int p1), (.int p2), (.int p3), (.int p4), (.int p5)] ∧ Z.Warmed39 U.vm ∧ U.heap = h0) (fun _ _ _ _ _ => True) (fun _ U o U' => ∃ v L, o = .returned v ∧ Q0 Z p0 p1 p2 p3 p4 p5 h0 n0 v U'.heap L ∧ FrameEnd U o U' L room_1.cells room_1.slots) := by
  refine MetFree.of_bodySF (plainFor_of_name pn0) hisR ?_
  intro p e s m args below meth c s₁ Bd hml0 hP hK
  obtain ⟨rfl, hZ, hh⟩ := hP
  have hx := Bd.exec
  have hby := Bd.bytes
  have hml : c.maxLocals = 13 := hml0
  have hown : s.vm.findClass "com/example/subsumption/subsumption/tableau/IntegerProgramRootPinLaw" = some m.cls := findClass_of_methodNamed Bd.named
  have hnm := (name_of_methodNamed Bd.named Bd.method).1
  have X0 : Stand p l e room_1 s m #[(.int p0), (.int p1), (.int p2), (.int p3), (.int p4), (.int p5)] below meth c s₁ [] 0 0 := Stand.of_body Bd
  have e0 : s₁.heap = h0 := by rw [← hh, Bd.state]; rfl
  have N0 := Fr.nil n0
  have K0 : Keep h0 h0 [] := Keep.refl h0 _
  refine own_in ?_
  refine own_go (B := s₁.setTop (mkF m 0 #[.val (.int p0), .val (.int p1), .val (.int p2), .val (.int p3), .val (.int p4), .val (.int p5), .unset, .unset, .unset, .unset, .unset, .unset, .unset] [])) (fun t k => castTop (ef0 m p0 p1 p2 p3 p4 p5) k) ?_
  refine own_go (B := s₁.setTop (mkF m 5 #[.val (.int p0), .val (.int p1), .val (.int p2), .val (.int p3), .val (.int p4), .val (.int p5), .unset, .unset, .unset, .unset, .unset, .unset, .unset] [(.int (p4 &&& (3 : Int32))), (.int (1 : Int32))])) (fun t k => ?_) ?_
  · show Steps p.tables e below (s₁.setTop (mkF m 0 #[.val (.int p0), .val (.int p1), .val (.int p2), .val (.int p3), .val (.int p4), .val (.int p5), .unset, .unset, .unset, .unset, .unset, .unset, .unset] [])) t
    refine XS.iconst X0.here hx rfl (hb hby at_0) ?_
    refine XS.iload X0.here hx rfl (hb hby at_1) rfl ?_
    refine XS.iconst X0.here hx rfl (hb hby at_3) ?_
    refine XS.iand X0.here hx rfl (hb hby at_4) rfl ?_
    exact k
  obtain ⟨mm, hm, e_mm⟩ : ∃ n : Nat, n < 2 ^ 2 ∧ (p4 &&& (3 : Int32)) = own_I n := own_sand p4 2 3 (by decide) (by decide)
  refine own_go (B := s₁.setTop (mkF m 5 #[.val (.int p0), .val (.int p1), .val (.int p2), .val (.int p3), .val (.int p4), .val (.int p5), .unset, .unset, .unset, .unset, .unset, .unset, .unset] [(.int (own_I mm)), (.int (1 : Int32))])) (fun t k => (congrArg (fun z => Steps p.tables e below (s₁.setTop (mkF m 5 #[.val (.int p0), .val (.int p1), .val (.int p2), .val (.int p3), .val (.int p4), .val (.int p5), .unset, .unset, .unset, .unset, .unset, .unset, .unset] [(.int z), (.int (1 : Int32))])) t) (e_mm)).mpr k) ?_
  refine own_go (B := s₁.setTop (mkF m 6 #[.val (.int p0), .val (.int p1), .val (.int p2), .val (.int p3), .val (.int p4), .val (.int p5), .unset, .unset, .unset, .unset, .unset, .unset, .unset] [(.int ((1 : Int32) + (own_I mm)))])) (fun t k => ?_) ?_
  · show Steps p.tables e below (s₁.setTop (mkF m 5 #[.val (.int p0), .val (.int p1), .val (.int p2), .val (.int p3), .val (.int p4), .val (.int p5), .unset, .unset, .unset, .unset, .unset, .unset, .unset] [(.int (own_I mm)), (.int (1 : Int32))])) t
    refine XS.iadd X0.here hx rfl (hb hby at_5) rfl ?_
    exact k
  refine own_go (B := s₁.setTop (mkF m 6 #[.val (.int p0), .val (.int p1), .val (.int p2), .val (.int p3), .val (.int p4), .val (.int p5), .unset, .unset, .unset, .unset, .unset, .unset, .unset] [(.int (own_I (mm + 1)))])) (fun t k => (congrArg (fun z => Steps p.tables e below (s₁.setTop (mkF m 6 #[.val (.int p0), .val (.int p1), .val (.int p2), .val (.int p3), .val (.int p4), .val (.int p5), .unset, .unset, .unset, .unset, .unset, .unset, .unset] [(.int z)])) t) (own_add1 hm)).mpr k) ?_
  refine own_go (B := s₁.setTop (mkF m 17 #[.val (.int p0), .val (.int p1), .val (.int p2), .val (.int p3), .val (.int p4), .val (.int p5), .val (.int (own_I (mm + 1))), .unset, .unset, .unset, .unset, .unset, .unset] [(.int ((((p4.toUInt32 >>> ((2 : Int32) &&& 31).toUInt32).toInt32) &&& (2147483647 : Int32)) % (5 : Int32)))])) (fun t k => ?_) ?_
  · show Steps p.tables e below (s₁.setTop (mkF m 6 #[.val (.int p0), .val (.int p1), .val (.int p2), .val (.int p3), .val (.int p4), .val (.int p5), .unset, .unset, .unset, .unset, .unset, .unset, .unset] [(.int (own_I (mm + 1)))])) t
    refine XS.istore X0.here hx rfl (hb hby at_6) rfl (l' := #[.val (.int p0), .val (.int p1), .val (.int p2), .val (.int p3), .val (.int p4), .val (.int p5), .val (.int (own_I (mm + 1))), .unset, .unset, .unset, .unset, .unset, .unset]) rfl ?_
    refine XS.iload X0.here hx rfl (hb hby at_8) rfl ?_
    refine XS.iconst X0.here hx rfl (hb hby at_10) ?_
    refine XS.iushr X0.here hx rfl (hb hby at_11) rfl ?_
    show Steps p.tables e below (s₁.setTop (mkF m 12 #[.val (.int p0), .val (.int p1), .val (.int p2), .val (.int p3), .val (.int p4), .val (.int p5), .val (.int (own_I (mm + 1))), .unset, .unset, .unset, .unset, .unset, .unset] [(.int ((p4.toUInt32 >>> ((2 : Int32) &&& 31).toUInt32).toInt32))])) t
    refine X0.ldcI hx hown (mvT hZ (hw _ (List.mem_of_getElem? (i := 0) rfl))) rfl (hb hby at_12) ?_
    refine XS.iand X0.here hx rfl (hb hby at_14) rfl ?_
    refine XS.iconst X0.here hx rfl (hb hby at_15) ?_
    refine Jvm.RoadKit.iremM X0 hx rfl (hb hby at_16) rfl (by decide) ?_
    exact k
  obtain ⟨kk, hk, e_kk⟩ : ∃ n : Nat, n < 5 ∧ ((((p4.toUInt32 >>> ((2 : Int32) &&& 31).toUInt32).toInt32) &&& (2147483647 : Int32)) % (5 : Int32)) = own_I n := own_smod _ 5 5 (by decide) (by decide) (by decide)
  refine own_go (B := s₁.setTop (mkF m 17 #[.val (.int p0), .val (.int p1), .val (.int p2), .val (.int p3), .val (.int p4), .val (.int p5), .val (.int (own_I (mm + 1))), .unset, .unset, .unset, .unset, .unset, .unset] [(.int (own_I kk))])) (fun t k => (congrArg (fun z => Steps p.tables e below (s₁.setTop (mkF m 17 #[.val (.int p0), .val (.int p1), .val (.int p2), .val (.int p3), .val (.int p4), .val (.int p5), .val (.int (own_I (mm + 1))), .unset, .unset, .unset, .unset, .unset, .unset] [(.int z)])) t) (e_kk)).mpr k) ?_
  refine own_go (B := s₁.setTop (mkF m 20 #[.val (.int p0), .val (.int p1), .val (.int p2), .val (.int p3), .val (.int p4), .val (.int p5), .val (.int (own_I (mm + 1))), .val (.int (own_I kk)), .unset, .unset, .unset, .unset, .unset] [(.int (5 : Int32))])) (fun t k => ?_) ?_
  · show Steps p.tables e below (s₁.setTop (mkF m 17 #[.val (.int p0), .val (.int p1), .val (.int p2), .val (.int p3), .val (.int p4), .val (.int p5), .val (.int (own_I (mm + 1))), .unset, .unset, .unset, .unset, .unset, .unset] [(.int (own_I kk))])) t
    refine XS.istore X0.here hx rfl (hb hby at_17) rfl (l' := #[.val (.int p0), .val (.int p1), .val (.int p2), .val (.int p3), .val (.int p4), .val (.int p5), .val (.int (own_I (mm + 1))), .val (.int (own_I kk)), .unset, .unset, .unset, .unset, .unset]) rfl ?_
    refine XS.iconst X0.here hx rfl (hb hby at_19) ?_
    exact k
  obtain ⟨T1, h1, k1, X1, e1, E1, A1, EA1, st1⟩ := newPE X0 hx hZ (hw _ (List.mem_of_getElem? (i := 1) rfl)) e0 (g := (mkF m 20 #[.val (.int p0), .val (.int p1), .val (.int p2), .val (.int p3), .val (.int p4), .val (.int p5), .val (.int (own_I (mm + 1))), .val (.int (own_I kk)), .unset, .unset, .unset, .unset, .unset] [(.int (5 : Int32))])) rfl (hb hby at_20) rfl (by decide) (cap := 5) (by decide) (by decide) (by decide) (by decide) (ad := "[I") (by decide)
  obtain ⟨b1, g1⟩ : ∃ z, z = h0.size := ⟨_, rfl⟩
  rw [← g1] at A1 EA1 st1
  have g_b1 : n0 ≤ b1 := by rw [g1]; exact Z0
  have sz_b1 : h0.size ≤ b1 := by rw [g1]; exact K0.1
  have K1 : Keep h0 h1 [] := K0.ext E1
  have X1 : Stand p l e room_1 s m #[(.int p0), (.int p1), (.int p2), (.int p3), (.int p4), (.int p5)] below meth c T1 _ 1 5 := X1
  have V_b1 : Arv Z h1 b1 k1 .int (5 : Int32) [(.int (0 : Int32)), (.int (0 : Int32)), (.int (0 : Int32)), (.int (0 : Int32)), (.int (0 : Int32))] (.int (0 : Int32)) := (Arv.new A1 (by decide)).pad (pad_rep [] (.int (0 : Int32)) 5)
  refine own_go st1 ?_
  show own_Fin p.tables e below (T1.setTop (mkF m 22 #[.val (.int p0), .val (.int p1), .val (.int p2), .val (.int p3), .val (.int p4), .val (.int p5), .val (.int (own_I (mm + 1))), .val (.int (own_I kk)), .unset, .unset, .unset, .unset, .unset] [(.ref b1)])) _
  refine own_go (B := T1.setTop (mkF m 28 #[.val (.int p0), .val (.int p1), .val (.int p2), .val (.int p3), .val (.int p4), .val (.int p5), .val (.int (own_I (mm + 1))), .val (.int (own_I kk)), .val (.ref b1), .unset, .unset, .unset, .unset] [(.int (0 : Int32)), (.int (0 : Int32)), (.ref b1)])) (fun t k => ?_) ?_
  · show Steps p.tables e below (T1.setTop (mkF m 22 #[.val (.int p0), .val (.int p1), .val (.int p2), .val (.int p3), .val (.int p4), .val (.int p5), .val (.int (own_I (mm + 1))), .val (.int (own_I kk)), .unset, .unset, .unset, .unset, .unset] [(.ref b1)])) t
    refine XS.astore X1.here hx rfl (hb hby at_22) rfl rfl (l' := #[.val (.int p0), .val (.int p1), .val (.int p2), .val (.int p3), .val (.int p4), .val (.int p5), .val (.int (own_I (mm + 1))), .val (.int (own_I kk)), .val (.ref b1), .unset, .unset, .unset, .unset]) rfl ?_
    refine XS.aload X1.here hx rfl (hb hby at_24) rfl rfl ?_
    refine XS.iconst X1.here hx rfl (hb hby at_26) ?_
    refine XS.iconst X1.here hx rfl (hb hby at_27) ?_
    exact k
  obtain ⟨cl2, Ar2, q2, S2, M2, Ha2, G2⟩ := id V_b1
  have hin2 : ¬ ((0 : Int32) < 0 ∨ cl2.slots.size ≤ ((0 : Int32)).toNatClampNeg) := inb_of S2 ⟨by decide, by decide⟩
  obtain ⟨T2, h2, X2, e2, W2, st2⟩ := stI X1 hx hZ e1 Ar2 (j := (0 : Int32)) hin2 (g := (mkF m 28 #[.val (.int p0), .val (.int p1), .val (.int p2), .val (.int p3), .val (.int p4), .val (.int p5), .val (.int (own_I (mm + 1))), .val (.int (own_I kk)), .val (.ref b1), .unset, .unset, .unset, .unset] [(.int (0 : Int32)), (.int (0 : Int32)), (.ref b1)])) rfl rfl (hb hby at_28)
  have N2 := Fr.snoc X2 N0 g_b1
  have K2 : Keep h0 h2 [] := K1.wr W2 (Or.inr sz_b1)
  have V2 : Arv Z h2 b1 k1 .int (5 : Int32) [(.int (0 : Int32)), (.int (0 : Int32)), (.int (0 : Int32)), (.int (0 : Int32)), (.int (0 : Int32))] (.int (0 : Int32)) := Arv.set Ar2 q2 S2 M2 Ha2 G2 rfl W2 0 rfl (Nat.le_of_ble_eq_true rfl)
  refine own_go st2 ?_
  show own_Fin p.tables e below (T2.setTop (mkF m 29 #[.val (.int p0), .val (.int p1), .val (.int p2), .val (.int p3), .val (.int p4), .val (.int p5), .val (.int (own_I (mm + 1))), .val (.int (own_I kk)), .val (.ref b1), .unset, .unset, .unset, .unset] [])) _
  refine own_go (B := T2.setTop (mkF m 35 #[.val (.int p0), .val (.int p1), .val (.int p2), .val (.int p3), .val (.int p4), .val (.int p5), .val (.int (own_I (mm + 1))), .val (.int (own_I kk)), .val (.ref b1), .unset, .unset, .unset, .unset] [(.int (p0 &&& (1 : Int32))), (.int (1 : Int32)), (.ref b1)])) (fun t k => ?_) ?_
  · show Steps p.tables e below (T2.setTop (mkF m 29 #[.val (.int p0), .val (.int p1), .val (.int p2), .val (.int p3), .val (.int p4), .val (.int p5), .val (.int (own_I (mm + 1))), .val (.int (own_I kk)), .val (.ref b1), .unset, .unset, .unset, .unset] [])) t
    refine XS.aload X2.here hx rfl (hb hby at_29) rfl rfl ?_
    refine XS.iconst X2.here hx rfl (hb hby at_31) ?_
    refine XS.iloadN X2.here hx rfl (hb hby at_32) rfl ?_
    refine XS.iconst X2.here hx rfl (hb hby at_33) ?_
    show Steps p.tables e below (T2.setTop (mkF m 34 #[.val (.int p0), .val (.int p1), .val (.int p2), .val (.int p3), .val (.int p4), .val (.int p5), .val (.int (own_I (mm + 1))), .val (.int (own_I kk)), .val (.ref b1), .unset, .unset, .unset, .unset] [(.int (1 : Int32)), (.int p0), (.int (1 : Int32)), (.ref b1)])) t
    refine XS.iand X2.here hx rfl (hb hby at_34) rfl ?_
    exact k
  obtain ⟨q1, hq1, e_q1⟩ : ∃ n : Nat, n < 2 ^ 1 ∧ (p0 &&& (1 : Int32)) = own_I n := own_sand p0 1 1 (by decide) (by decide)
  refine own_go (B := T2.setTop (mkF m 35 #[.val (.int p0), .val (.int p1), .val (.int p2), .val (.int p3), .val (.int p4), .val (.int p5), .val (.int (own_I (mm + 1))), .val (.int (own_I kk)), .val (.ref b1), .unset, .unset, .unset, .unset] [(.int (own_I q1)), (.int (1 : Int32)), (.ref b1)])) (fun t k => (congrArg (fun z => Steps p.tables e below (T2.setTop (mkF m 35 #[.val (.int p0), .val (.int p1), .val (.int p2), .val (.int p3), .val (.int p4), .val (.int p5), .val (.int (own_I (mm + 1))), .val (.int (own_I kk)), .val (.ref b1), .unset, .unset, .unset, .unset] [(.int z), (.int (1 : Int32)), (.ref b1)])) t) (e_q1)).mpr k) ?_
  obtain ⟨cl3, Ar3, q3, S3, M3, Ha3, G3⟩ := id V2
  have hin3 : ¬ ((1 : Int32) < 0 ∨ cl3.slots.size ≤ ((1 : Int32)).toNatClampNeg) := inb_of S3 ⟨by decide, by decide⟩
  obtain ⟨T3, h3, X3, e3, W3, st3⟩ := stI X2 hx hZ e2 Ar3 (j := (1 : Int32)) hin3 (g := (mkF m 35 #[.val (.int p0), .val (.int p1), .val (.int p2), .val (.int p3), .val (.int p4), .val (.int p5), .val (.int (own_I (mm + 1))), .val (.int (own_I kk)), .val (.ref b1), .unset, .unset, .unset, .unset] [(.int (own_I q1)), (.int (1 : Int32)), (.ref b1)])) rfl rfl (hb hby at_35)
  have N3 := Fr.snoc X3 N2 g_b1
  have K3 : Keep h0 h3 [] := K2.wr W3 (Or.inr sz_b1)
  have V3 : Arv Z h3 b1 k1 .int (5 : Int32) [(.int (0 : Int32)), (.int (own_I q1)), (.int (0 : Int32)), (.int (0 : Int32)), (.int (0 : Int32))] (.int (0 : Int32)) := Arv.set Ar3 q3 S3 M3 Ha3 G3 rfl W3 1 rfl (Nat.le_of_ble_eq_true rfl)
  refine own_go st3 ?_
  show own_Fin p.tables e below (T3.setTop (mkF m 36 #[.val (.int p0), .val (.int p1), .val (.int p2), .val (.int p3), .val (.int p4), .val (.int p5), .val (.int (own_I (mm + 1))), .val (.int (own_I kk)), .val (.ref b1), .unset, .unset, .unset, .unset] [])) _
  refine own_go (B := T3.setTop (mkF m 45 #[.val (.int p0), .val (.int p1), .val (.int p2), .val (.int p3), .val (.int p4), .val (.int p5), .val (.int (own_I (mm + 1))), .val (.int (own_I kk)), .val (.ref b1), .unset, .unset, .unset, .unset] [(.int ((p1 &&& (2147483647 : Int32)) % (3 : Int32))), (.int (2 : Int32)), (.ref b1)])) (fun t k => ?_) ?_
  · show Steps p.tables e below (T3.setTop (mkF m 36 #[.val (.int p0), .val (.int p1), .val (.int p2), .val (.int p3), .val (.int p4), .val (.int p5), .val (.int (own_I (mm + 1))), .val (.int (own_I kk)), .val (.ref b1), .unset, .unset, .unset, .unset] [])) t
    refine XS.aload X3.here hx rfl (hb hby at_36) rfl rfl ?_
    refine XS.iconst X3.here hx rfl (hb hby at_38) ?_
    refine XS.iloadN X3.here hx rfl (hb hby at_39) rfl ?_
    refine X3.ldcI hx hown (mvT hZ (hw _ (List.mem_of_getElem? (i := 0) rfl))) rfl (hb hby at_40) ?_
    show Steps p.tables e below (T3.setTop (mkF m 42 #[.val (.int p0), .val (.int p1), .val (.int p2), .val (.int p3), .val (.int p4), .val (.int p5), .val (.int (own_I (mm + 1))), .val (.int (own_I kk)), .val (.ref b1), .unset, .unset, .unset, .unset] [(.int (2147483647 : Int32)), (.int p1), (.int (2 : Int32)), (.ref b1)])) t
    refine XS.iand X3.here hx rfl (hb hby at_42) rfl ?_
    refine XS.iconst X3.here hx rfl (hb hby at_43) ?_
    refine Jvm.RoadKit.iremM X3 hx rfl (hb hby at_44) rfl (by decide) ?_
    exact k
  obtain ⟨q2, hq2, e_q2⟩ : ∃ n : Nat, n < 3 ∧ ((p1 &&& (2147483647 : Int32)) % (3 : Int32)) = own_I n := own_smod p1 3 3 (by decide) (by decide) (by decide)
  refine own_go (B := T3.setTop (mkF m 45 #[.val (.int p0), .val (.int p1), .val (.int p2), .val (.int p3), .val (.int p4), .val (.int p5), .val (.int (own_I (mm + 1))), .val (.int (own_I kk)), .val (.ref b1), .unset, .unset, .unset, .unset] [(.int (own_I q2)), (.int (2 : Int32)), (.ref b1)])) (fun t k => (congrArg (fun z => Steps p.tables e below (T3.setTop (mkF m 45 #[.val (.int p0), .val (.int p1), .val (.int p2), .val (.int p3), .val (.int p4), .val (.int p5), .val (.int (own_I (mm + 1))), .val (.int (own_I kk)), .val (.ref b1), .unset, .unset, .unset, .unset] [(.int z), (.int (2 : Int32)), (.ref b1)])) t) (e_q2)).mpr k) ?_
  obtain ⟨cl4, Ar4, q4, S4, M4, Ha4, G4⟩ := id V3
  have hin4 : ¬ ((2 : Int32) < 0 ∨ cl4.slots.size ≤ ((2 : Int32)).toNatClampNeg) := inb_of S4 ⟨by decide, by decide⟩
  obtain ⟨T4, h4, X4, e4, W4, st4⟩ := stI X3 hx hZ e3 Ar4 (j := (2 : Int32)) hin4 (g := (mkF m 45 #[.val (.int p0), .val (.int p1), .val (.int p2), .val (.int p3), .val (.int p4), .val (.int p5), .val (.int (own_I (mm + 1))), .val (.int (own_I kk)), .val (.ref b1), .unset, .unset, .unset, .unset] [(.int (own_I q2)), (.int (2 : Int32)), (.ref b1)])) rfl rfl (hb hby at_45)
  have N4 := Fr.snoc X4 N3 g_b1
  have K4 : Keep h0 h4 [] := K3.wr W4 (Or.inr sz_b1)
  have V4 : Arv Z h4 b1 k1 .int (5 : Int32) [(.int (0 : Int32)), (.int (own_I q1)), (.int (own_I q2)), (.int (0 : Int32)), (.int (0 : Int32))] (.int (0 : Int32)) := Arv.set Ar4 q4 S4 M4 Ha4 G4 rfl W4 2 rfl (Nat.le_of_ble_eq_true rfl)
  refine own_go st4 ?_
  show own_Fin p.tables e below (T4.setTop (mkF m 46 #[.val (.int p0), .val (.int p1), .val (.int p2), .val (.int p3), .val (.int p4), .val (.int p5), .val (.int (own_I (mm + 1))), .val (.int (own_I kk)), .val (.ref b1), .unset, .unset, .unset, .unset] [])) _
  refine own_go (B := T4.setTop (mkF m 52 #[.val (.int p0), .val (.int p1), .val (.int p2), .val (.int p3), .val (.int p4), .val (.int p5), .val (.int (own_I (mm + 1))), .val (.int (own_I kk)), .val (.ref b1), .unset, .unset, .unset, .unset] [(.int (p2 &&& (3 : Int32))), (.int (3 : Int32)), (.ref b1)])) (fun t k => ?_) ?_
  · show Steps p.tables e below (T4.setTop (mkF m 46 #[.val (.int p0), .val (.int p1), .val (.int p2), .val (.int p3), .val (.int p4), .val (.int p5), .val (.int (own_I (mm + 1))), .val (.int (own_I kk)), .val (.ref b1), .unset, .unset, .unset, .unset] [])) t
    refine XS.aload X4.here hx rfl (hb hby at_46) rfl rfl ?_
    refine XS.iconst X4.here hx rfl (hb hby at_48) ?_
    refine XS.iloadN X4.here hx rfl (hb hby at_49) rfl ?_
    refine XS.iconst X4.here hx rfl (hb hby at_50) ?_
    show Steps p.tables e below (T4.setTop (mkF m 51 #[.val (.int p0), .val (.int p1), .val (.int p2), .val (.int p3), .val (.int p4), .val (.int p5), .val (.int (own_I (mm + 1))), .val (.int (own_I kk)), .val (.ref b1), .unset, .unset, .unset, .unset] [(.int (3 : Int32)), (.int p2), (.int (3 : Int32)), (.ref b1)])) t
    refine XS.iand X4.here hx rfl (hb hby at_51) rfl ?_
    exact k
  obtain ⟨q3, hq3, e_q3⟩ : ∃ n : Nat, n < 2 ^ 2 ∧ (p2 &&& (3 : Int32)) = own_I n := own_sand p2 2 3 (by decide) (by decide)
  refine own_go (B := T4.setTop (mkF m 52 #[.val (.int p0), .val (.int p1), .val (.int p2), .val (.int p3), .val (.int p4), .val (.int p5), .val (.int (own_I (mm + 1))), .val (.int (own_I kk)), .val (.ref b1), .unset, .unset, .unset, .unset] [(.int (own_I q3)), (.int (3 : Int32)), (.ref b1)])) (fun t k => (congrArg (fun z => Steps p.tables e below (T4.setTop (mkF m 52 #[.val (.int p0), .val (.int p1), .val (.int p2), .val (.int p3), .val (.int p4), .val (.int p5), .val (.int (own_I (mm + 1))), .val (.int (own_I kk)), .val (.ref b1), .unset, .unset, .unset, .unset] [(.int z), (.int (3 : Int32)), (.ref b1)])) t) (e_q3)).mpr k) ?_
  obtain ⟨cl5, Ar5, q5, S5, M5, Ha5, G5⟩ := id V4
  have hin5 : ¬ ((3 : Int32) < 0 ∨ cl5.slots.size ≤ ((3 : Int32)).toNatClampNeg) := inb_of S5 ⟨by decide, by decide⟩
  obtain ⟨T5, h5, X5, e5, W5, st5⟩ := stI X4 hx hZ e4 Ar5 (j := (3 : Int32)) hin5 (g := (mkF m 52 #[.val (.int p0), .val (.int p1), .val (.int p2), .val (.int p3), .val (.int p4), .val (.int p5), .val (.int (own_I (mm + 1))), .val (.int (own_I kk)), .val (.ref b1), .unset, .unset, .unset, .unset] [(.int (own_I q3)), (.int (3 : Int32)), (.ref b1)])) rfl rfl (hb hby at_52)
  have N5 := Fr.snoc X5 N4 g_b1
  have K5 : Keep h0 h5 [] := K4.wr W5 (Or.inr sz_b1)
  have V5 : Arv Z h5 b1 k1 .int (5 : Int32) [(.int (0 : Int32)), (.int (own_I q1)), (.int (own_I q2)), (.int (own_I q3)), (.int (0 : Int32))] (.int (0 : Int32)) := Arv.set Ar5 q5 S5 M5 Ha5 G5 rfl W5 3 rfl (Nat.le_of_ble_eq_true rfl)
  refine own_go st5 ?_
  show own_Fin p.tables e below (T5.setTop (mkF m 53 #[.val (.int p0), .val (.int p1), .val (.int p2), .val (.int p3), .val (.int p4), .val (.int p5), .val (.int (own_I (mm + 1))), .val (.int (own_I kk)), .val (.ref b1), .unset, .unset, .unset, .unset] [])) _
  refine own_go (B := T5.setTop (mkF m 62 #[.val (.int p0), .val (.int p1), .val (.int p2), .val (.int p3), .val (.int p4), .val (.int p5), .val (.int (own_I (mm + 1))), .val (.int (own_I kk)), .val (.ref b1), .unset, .unset, .unset, .unset] [(.int ((p3 &&& (2147483647 : Int32)) % (5 : Int32))), (.int (4 : Int32)), (.ref b1)])) (fun t k => ?_) ?_
  · show Steps p.tables e below (T5.setTop (mkF m 53 #[.val (.int p0), .val (.int p1), .val (.int p2), .val (.int p3), .val (.int p4), .val (.int p5), .val (.int (own_I (mm + 1))), .val (.int (own_I kk)), .val (.ref b1), .unset, .unset, .unset, .unset] [])) t
    refine XS.aload X5.here hx rfl (hb hby at_53) rfl rfl ?_
    refine XS.iconst X5.here hx rfl (hb hby at_55) ?_
    refine XS.iloadN X5.here hx rfl (hb hby at_56) rfl ?_
    refine X5.ldcI hx hown (mvT hZ (hw _ (List.mem_of_getElem? (i := 0) rfl))) rfl (hb hby at_57) ?_
    show Steps p.tables e below (T5.setTop (mkF m 59 #[.val (.int p0), .val (.int p1), .val (.int p2), .val (.int p3), .val (.int p4), .val (.int p5), .val (.int (own_I (mm + 1))), .val (.int (own_I kk)), .val (.ref b1), .unset, .unset, .unset, .unset] [(.int (2147483647 : Int32)), (.int p3), (.int (4 : Int32)), (.ref b1)])) t
    refine XS.iand X5.here hx rfl (hb hby at_59) rfl ?_
    refine XS.iconst X5.here hx rfl (hb hby at_60) ?_
    refine Jvm.RoadKit.iremM X5 hx rfl (hb hby at_61) rfl (by decide) ?_
    exact k
  obtain ⟨q4, hq4, e_q4⟩ : ∃ n : Nat, n < 5 ∧ ((p3 &&& (2147483647 : Int32)) % (5 : Int32)) = own_I n := own_smod p3 5 5 (by decide) (by decide) (by decide)
  refine own_go (B := T5.setTop (mkF m 62 #[.val (.int p0), .val (.int p1), .val (.int p2), .val (.int p3), .val (.int p4), .val (.int p5), .val (.int (own_I (mm + 1))), .val (.int (own_I kk)), .val (.ref b1), .unset, .unset, .unset, .unset] [(.int (own_I q4)), (.int (4 : Int32)), (.ref b1)])) (fun t k => (congrArg (fun z => Steps p.tables e below (T5.setTop (mkF m 62 #[.val (.int p0), .val (.int p1), .val (.int p2), .val (.int p3), .val (.int p4), .val (.int p5), .val (.int (own_I (mm + 1))), .val (.int (own_I kk)), .val (.ref b1), .unset, .unset, .unset, .unset] [(.int z), (.int (4 : Int32)), (.ref b1)])) t) (e_q4)).mpr k) ?_
  obtain ⟨cl6, Ar6, q6, S6, M6, Ha6, G6⟩ := id V5
  have hin6 : ¬ ((4 : Int32) < 0 ∨ cl6.slots.size ≤ ((4 : Int32)).toNatClampNeg) := inb_of S6 ⟨by decide, by decide⟩
  obtain ⟨T6, h6, X6, e6, W6, st6⟩ := stI X5 hx hZ e5 Ar6 (j := (4 : Int32)) hin6 (g := (mkF m 62 #[.val (.int p0), .val (.int p1), .val (.int p2), .val (.int p3), .val (.int p4), .val (.int p5), .val (.int (own_I (mm + 1))), .val (.int (own_I kk)), .val (.ref b1), .unset, .unset, .unset, .unset] [(.int (own_I q4)), (.int (4 : Int32)), (.ref b1)])) rfl rfl (hb hby at_62)
  have N6 := Fr.snoc X6 N5 g_b1
  have K6 : Keep h0 h6 [] := K5.wr W6 (Or.inr sz_b1)
  have V6 : Arv Z h6 b1 k1 .int (5 : Int32) [(.int (0 : Int32)), (.int (own_I q1)), (.int (own_I q2)), (.int (own_I q3)), (.int (own_I q4))] (.int (0 : Int32)) := Arv.set Ar6 q6 S6 M6 Ha6 G6 rfl W6 4 rfl (Nat.le_of_ble_eq_true rfl)
  refine own_go st6 ?_
  show own_Fin p.tables e below (T6.setTop (mkF m 63 #[.val (.int p0), .val (.int p1), .val (.int p2), .val (.int p3), .val (.int p4), .val (.int p5), .val (.int (own_I (mm + 1))), .val (.int (own_I kk)), .val (.ref b1), .unset, .unset, .unset, .unset] [])) _
  have Vq : Arv Z h6 b1 k1 .int (5 : Int32) (([0, q1, q2, q3, q4] : List Nat).map own_V) (.int (0 : Int32)) := V6
  have hqs : ∀ y ∈ ([0, q1, q2, q3, q4] : List Nat), y < 5 := by
    intro y hy
    simp only [List.mem_cons, List.not_mem_nil, or_false] at hy
    rcases hy with rfl | rfl | rfl | rfl | rfl
    · decide
    all_goals (first | assumption | exact Nat.lt_of_lt_of_le (by assumption) (by decide))
  refine own_go (B := T6.setTop (mkF m 64 #[.val (.int p0), .val (.int p1), .val (.int p2), .val (.int p3), .val (.int p4), .val (.int p5), .val (.int (own_I (mm + 1))), .val (.int (own_I kk)), .val (.ref b1), .unset, .unset, .unset, .unset] [(.int (5 : Int32))])) (fun t k => ?_) ?_
  · show Steps p.tables e below (T6.setTop (mkF m 63 #[.val (.int p0), .val (.int p1), .val (.int p2), .val (.int p3), .val (.int p4), .val (.int p5), .val (.int (own_I (mm + 1))), .val (.int (own_I kk)), .val (.ref b1), .unset, .unset, .unset, .unset] [])) t
    refine XS.iconst X6.here hx rfl (hb hby at_63) ?_
    exact k
  obtain ⟨T7, h7, k7, X7, e7, E7, A7, EA7, st7⟩ := newPE X6 hx hZ (hw _ (List.mem_of_getElem? (i := 1) rfl)) e6 (g := (mkF m 64 #[.val (.int p0), .val (.int p1), .val (.int p2), .val (.int p3), .val (.int p4), .val (.int p5), .val (.int (own_I (mm + 1))), .val (.int (own_I kk)), .val (.ref b1), .unset, .unset, .unset, .unset] [(.int (5 : Int32))])) rfl (hb hby at_64) rfl (by decide) (cap := 5) (by decide) (by decide) (by decide) (by decide) (ad := "[I") (by decide)
  obtain ⟨b7, g7⟩ : ∃ z, z = h6.size := ⟨_, rfl⟩
  rw [← g7] at A7 EA7 st7
  have g_b7 : n0 ≤ b7 := by rw [g7]; exact (Nat.le_trans Z0 K6.1)
  have sz_b7 : h0.size ≤ b7 := by rw [g7]; exact K6.1
  have ne8 : b1 ≠ b7 := Nat.ne_of_lt (by rw [g7]; exact Vq.lt)
  have K7 : Keep h0 h7 [] := K6.ext E7
  have X7 : Stand p l e room_1 s m #[(.int p0), (.int p1), (.int p2), (.int p3), (.int p4), (.int p5)] below meth c T7 _ 2 10 := X7
  have V_b7 : Arv Z h7 b7 k7 .int (5 : Int32) [(.int (0 : Int32)), (.int (0 : Int32)), (.int (0 : Int32)), (.int (0 : Int32)), (.int (0 : Int32))] (.int (0 : Int32)) := (Arv.new A7 (by decide)).pad (pad_rep [] (.int (0 : Int32)) 5)
  refine own_go st7 ?_
  show own_Fin p.tables e below (T7.setTop (mkF m 66 #[.val (.int p0), .val (.int p1), .val (.int p2), .val (.int p3), .val (.int p4), .val (.int p5), .val (.int (own_I (mm + 1))), .val (.int (own_I kk)), .val (.ref b1), .unset, .unset, .unset, .unset] [(.ref b7)])) _
  have Vp : Arv Z h7 b7 k7 .int (5 : Int32) (([0, 0, 0, 0, 0] : List Nat).map own_V) (.int (0 : Int32)) := V_b7
  refine own_go (B := T7.setTop (mkF m 75 #[.val (.int p0), .val (.int p1), .val (.int p2), .val (.int p3), .val (.int p4), .val (.int p5), .val (.int (own_I (mm + 1))), .val (.int (own_I kk)), .val (.ref b1), .val (.ref b7), .unset, .unset, .unset] [(.int (own_I kk)), (.int (own_I (mm + 1))), (.int (0 : Int32)), (.ref b7)])) (fun t k => ?_) ?_
  · show Steps p.tables e below (T7.setTop (mkF m 66 #[.val (.int p0), .val (.int p1), .val (.int p2), .val (.int p3), .val (.int p4), .val (.int p5), .val (.int (own_I (mm + 1))), .val (.int (own_I kk)), .val (.ref b1), .unset, .unset, .unset, .unset] [(.ref b7)])) t
    refine XS.astore X7.here hx rfl (hb hby at_66) rfl rfl (l' := #[.val (.int p0), .val (.int p1), .val (.int p2), .val (.int p3), .val (.int p4), .val (.int p5), .val (.int (own_I (mm + 1))), .val (.int (own_I kk)), .val (.ref b1), .val (.ref b7), .unset, .unset, .unset]) rfl ?_
    refine XS.aload X7.here hx rfl (hb hby at_68) rfl rfl ?_
    refine XS.iconst X7.here hx rfl (hb hby at_70) ?_
    refine XS.iload X7.here hx rfl (hb hby at_71) rfl ?_
    show Steps p.tables e below (T7.setTop (mkF m 73 #[.val (.int p0), .val (.int p1), .val (.int p2), .val (.int p3), .val (.int p4), .val (.int p5), .val (.int (own_I (mm + 1))), .val (.int (own_I kk)), .val (.ref b1), .val (.ref b7), .unset, .unset, .unset] [(.int (own_I (mm + 1))), (.int (0 : Int32)), (.ref b7)])) t
    refine XS.iload X7.here hx rfl (hb hby at_73) rfl ?_
    exact k
  obtain ⟨_, _, ⟨T9, L9, k9, n9⟩, -, X9, ⟨Lc9, hQ9, l9, y9, z9⟩, st9⟩ := Jvm.LawKit.callS X7 hx (y := (⟨"com/example/subsumption/subsumption/tableau/IntegerProgramRootPinLaw", "lab", "(III)I"⟩ : MethodName)) hown (mvT hZ (hw _ (List.mem_of_getElem? (i := 2) rfl))) (mvT hZ (hw _ (List.mem_of_getElem? (i := 3) rfl))) (mvT hZ (hw _ (List.mem_of_getElem? (i := 4) rfl))) (mvT hZ (hw _ (List.mem_of_getElem? (i := 5) rfl))) (by decide) (backOf (W := 1) (rm1 l Z a0 hw [] 0 (mm + 1) kk h7 n0 (Nat.le_trans Z0 K7.1) (by decide) (Nat.succ_lt_succ hm) hk) hZ (hw _ (List.mem_of_getElem? (i := 5) rfl)) (hw _ (List.mem_of_getElem? (i := 4) rfl)) (by decide) (by decide)) (g := (mkF m 75 #[.val (.int p0), .val (.int p1), .val (.int p2), .val (.int p3), .val (.int p4), .val (.int p5), .val (.int (own_I (mm + 1))), .val (.int (own_I kk)), .val (.ref b1), .val (.ref b7), .unset, .unset, .unset] [(.int (own_I kk)), (.int (own_I (mm + 1))), (.int (0 : Int32)), (.ref b7)])) rfl (by rw [hml]; rfl) (argsL := [(.int (0 : Int32)), (.int (own_I (mm + 1))), (.int (own_I kk))]) (rest := [(.ref b7)]) (lenOf pd0_0 rfl) rfl (by show 2 * 0 + _ ≤ _; exact Nat.le_of_eq rfl) (hb hby at_75) (fun _ _ => ⟨rfl, e7, (by decide : 2 + 0 ≤ _), (by decide : 10 + 0 ≤ _)⟩)
  dsimp only [Pt.U, Pt.locs, Pt.cells, Pt.slots] at X9 l9 y9 z9 st9 hQ9
  subst y9 z9
  have X9 : Stand p l e room_1 s m #[(.int p0), (.int p1), (.int p2), (.int p3), (.int p4), (.int p5)] below meth c T9 _ 2 10 := X9
  obtain ⟨rfl, N9q, e9⟩ := hQ9
  have N9 : Fr n0 L9 := by rw [l9]; exact Fr.app N6 N9q
  refine own_go (st9) ?_
  show own_Fin p.tables e below (T9.setTop (mkF m 78 #[.val (.int p0), .val (.int p1), .val (.int p2), .val (.int p3), .val (.int p4), .val (.int p5), .val (.int (own_I (mm + 1))), .val (.int (own_I kk)), .val (.ref b1), .val (.ref b7), .unset, .unset, .unset] [(.int (own_I (own_lab 0 (mm + 1) kk))), (.ref b7)])) _
  refine own_go (B := T9.setTop (mkF m 81 #[.val (.int p0), .val (.int p1), .val (.int p2), .val (.int p3), .val (.int p4), .val (.int p5), .val (.int (own_I (mm + 1))), .val (.int (own_I kk)), .val (.ref b1), .val (.ref b7), .unset, .unset, .unset] [(.int (0 : Int32)), (.ref b1), (.int (own_I (own_lab 0 (mm + 1) kk))), (.ref b7)])) (fun t k => ?_) ?_
  · show Steps p.tables e below (T9.setTop (mkF m 78 #[.val (.int p0), .val (.int p1), .val (.int p2), .val (.int p3), .val (.int p4), .val (.int p5), .val (.int (own_I (mm + 1))), .val (.int (own_I kk)), .val (.ref b1), .val (.ref b7), .unset, .unset, .unset] [(.int (own_I (own_lab 0 (mm + 1) kk))), (.ref b7)])) t
    refine XS.aload X9.here hx rfl (hb hby at_78) rfl rfl ?_
    refine XS.iconst X9.here hx rfl (hb hby at_80) ?_
    exact k
  have f11 := (Vq.ext E7)
  obtain ⟨cl10, Ar10, -, S10, M10, Ha10, G10⟩ := id f11
  have hin10 : ¬ ((0 : Int32) < 0 ∨ cl10.slots.size ≤ ((0 : Int32)).toNatClampNeg) := inb_of S10 ⟨by decide, by decide⟩
  have hat10 : cl10.slots[((0 : Int32)).toNatClampNeg]? = some (.int (0 : Int32)) := Has.at Ha10 hin10 rfl
  refine own_go (B := T9.setTop (mkF m 82 #[.val (.int p0), .val (.int p1), .val (.int p2), .val (.int p3), .val (.int p4), .val (.int p5), .val (.int (own_I (mm + 1))), .val (.int (own_I kk)), .val (.ref b1), .val (.ref b7), .unset, .unset, .unset] [(.int (0 : Int32)), (.int (own_I (own_lab 0 (mm + 1) kk))), (.ref b7)])) (fun t k => ?_) ?_
  · exact X9.iaload hx (j := (0 : Int32)) (v := (.int (0 : Int32))) (by rw [e9]; exact Ar10.1) (State.isArrayOf_alike hZ.alike Ar10.2.1) Ar10.2.2 hin10 hat10 (g := (mkF m 81 #[.val (.int p0), .val (.int p1), .val (.int p2), .val (.int p3), .val (.int p4), .val (.int p5), .val (.int (own_I (mm + 1))), .val (.int (own_I kk)), .val (.ref b1), .val (.ref b7), .unset, .unset, .unset] [(.int (0 : Int32)), (.ref b1), (.int (own_I (own_lab 0 (mm + 1) kk))), (.ref b7)])) rfl rfl (hb hby at_81) _ k
  refine own_go (B := T9.setTop (mkF m 86 #[.val (.int p0), .val (.int p1), .val (.int p2), .val (.int p3), .val (.int p4), .val (.int p5), .val (.int (own_I (mm + 1))), .val (.int (own_I kk)), .val (.ref b1), .val (.ref b7), .unset, .unset, .unset] [(.int (own_I kk)), (.int (own_I (mm + 1))), (.int (0 : Int32)), (.int (own_I (own_lab 0 (mm + 1) kk))), (.ref b7)])) (fun t k => ?_) ?_
  · show Steps p.tables e below (T9.setTop (mkF m 82 #[.val (.int p0), .val (.int p1), .val (.int p2), .val (.int p3), .val (.int p4), .val (.int p5), .val (.int (own_I (mm + 1))), .val (.int (own_I kk)), .val (.ref b1), .val (.ref b7), .unset, .unset, .unset] [(.int (0 : Int32)), (.int (own_I (own_lab 0 (mm + 1) kk))), (.ref b7)])) t
    refine XS.iload X9.here hx rfl (hb hby at_82) rfl ?_
    refine XS.iload X9.here hx rfl (hb hby at_84) rfl ?_
    exact k
  obtain ⟨_, _, ⟨T12, L12, k12, n12⟩, -, X12, ⟨Lc12, hQ12, l12, y12, z12⟩, st12⟩ := Jvm.LawKit.callS X9 hx (y := (⟨"com/example/subsumption/subsumption/tableau/IntegerProgramRootPinLaw", "lab", "(III)I"⟩ : MethodName)) hown (mvT hZ (hw _ (List.mem_of_getElem? (i := 2) rfl))) (mvT hZ (hw _ (List.mem_of_getElem? (i := 3) rfl))) (mvT hZ (hw _ (List.mem_of_getElem? (i := 4) rfl))) (mvT hZ (hw _ (List.mem_of_getElem? (i := 5) rfl))) (by decide) (backOf (W := 2) (rm1 l Z a0 hw [] 0 (mm + 1) kk h7 n0 (Nat.le_trans Z0 K7.1) (by decide) (Nat.succ_lt_succ hm) hk) hZ (hw _ (List.mem_of_getElem? (i := 5) rfl)) (hw _ (List.mem_of_getElem? (i := 4) rfl)) (by decide) (by decide)) (g := (mkF m 86 #[.val (.int p0), .val (.int p1), .val (.int p2), .val (.int p3), .val (.int p4), .val (.int p5), .val (.int (own_I (mm + 1))), .val (.int (own_I kk)), .val (.ref b1), .val (.ref b7), .unset, .unset, .unset] [(.int (own_I kk)), (.int (own_I (mm + 1))), (.int (0 : Int32)), (.int (own_I (own_lab 0 (mm + 1) kk))), (.ref b7)])) rfl (by rw [hml]; rfl) (argsL := [(.int (0 : Int32)), (.int (own_I (mm + 1))), (.int (own_I kk))]) (rest := [(.int (own_I (own_lab 0 (mm + 1) kk))), (.ref b7)]) (lenOf pd0_0 rfl) rfl (by show 2 * 0 + _ ≤ _; exact Nat.le_of_eq rfl) (hb hby at_86) (fun _ _ => ⟨rfl, e9, (by decide : 2 + 0 ≤ _), (by decide : 10 + 0 ≤ _)⟩)
  dsimp only [Pt.U, Pt.locs, Pt.cells, Pt.slots] at X12 l12 y12 z12 st12 hQ12
  subst y12 z12
  have X12 : Stand p l e room_1 s m #[(.int p0), (.int p1), (.int p2), (.int p3), (.int p4), (.int p5)] below meth c T12 _ 2 10 := X12
  obtain ⟨rfl, N12q, e12⟩ := hQ12
  have N12 : Fr n0 L12 := by rw [l12]; exact Fr.app N9 N12q
  refine own_go (st12) ?_
  show own_Fin p.tables e below (T12.setTop (mkF m 89 #[.val (.int p0), .val (.int p1), .val (.int p2), .val (.int p3), .val (.int p4), .val (.int p5), .val (.int (own_I (mm + 1))), .val (.int (own_I kk)), .val (.ref b1), .val (.ref b7), .unset, .unset, .unset] [(.int (own_I (own_lab 0 (mm + 1) kk))), (.int (own_I (own_lab 0 (mm + 1) kk))), (.ref b7)])) _
  obtain ⟨cl13, Ar13, q13, S13, M13, Ha13, G13⟩ := id Vp
  have hin13 : ¬ ((own_I (own_lab 0 (mm + 1) kk)) < 0 ∨ cl13.slots.size ≤ ((own_I (own_lab 0 (mm + 1) kk))).toNatClampNeg) := inb_of S13 (own_inB (own_lab5 _ _ _))
  obtain ⟨T13, h13, X13, e13, W13, st13⟩ := stI X12 hx hZ e12 Ar13 (j := (own_I (own_lab 0 (mm + 1) kk))) hin13 (g := (mkF m 89 #[.val (.int p0), .val (.int p1), .val (.int p2), .val (.int p3), .val (.int p4), .val (.int p5), .val (.int (own_I (mm + 1))), .val (.int (own_I kk)), .val (.ref b1), .val (.ref b7), .unset, .unset, .unset] [(.int (own_I (own_lab 0 (mm + 1) kk))), (.int (own_I (own_lab 0 (mm + 1) kk))), (.ref b7)])) rfl rfl (hb hby at_89)
  have N13 := Fr.snoc X13 N12 g_b7
  have K13 : Keep h0 h13 [] := K7.wr W13 (Or.inr sz_b7)
  have V13 : Arv Z h13 b7 k7 .int (5 : Int32) ((([0, 0, 0, 0, 0] : List Nat).set (own_lab 0 (mm + 1) kk) (own_lab 0 (mm + 1) kk)).map own_V) (.int (0 : Int32)) := own_set5 (Arv.set Ar13 q13 S13 M13 Ha13 G13 rfl W13 (own_lab 0 (mm + 1) kk) (own_nat (own_lab5 _ _ _)) (by simp only [List.length_map, List.length_set]; exact own_lab5 _ _ _))
  refine own_go st13 ?_
  show own_Fin p.tables e below (T13.setTop (mkF m 90 #[.val (.int p0), .val (.int p1), .val (.int p2), .val (.int p3), .val (.int p4), .val (.int p5), .val (.int (own_I (mm + 1))), .val (.int (own_I kk)), .val (.ref b1), .val (.ref b7), .unset, .unset, .unset] [])) _
  refine own_go (B := T13.setTop (mkF m 97 #[.val (.int p0), .val (.int p1), .val (.int p2), .val (.int p3), .val (.int p4), .val (.int p5), .val (.int (own_I (mm + 1))), .val (.int (own_I kk)), .val (.ref b1), .val (.ref b7), .unset, .unset, .unset] [(.int (own_I kk)), (.int (own_I (mm + 1))), (.int (1 : Int32)), (.ref b7)])) (fun t k => ?_) ?_
  · show Steps p.tables e below (T13.setTop (mkF m 90 #[.val (.int p0), .val (.int p1), .val (.int p2), .val (.int p3), .val (.int p4), .val (.int p5), .val (.int (own_I (mm + 1))), .val (.int (own_I kk)), .val (.ref b1), .val (.ref b7), .unset, .unset, .unset] [])) t
    refine XS.aload X13.here hx rfl (hb hby at_90) rfl rfl ?_
    refine XS.iconst X13.here hx rfl (hb hby at_92) ?_
    refine XS.iload X13.here hx rfl (hb hby at_93) rfl ?_
    refine XS.iload X13.here hx rfl (hb hby at_95) rfl ?_
    exact k
  obtain ⟨_, _, ⟨T14, L14, k14, n14⟩, -, X14, ⟨Lc14, hQ14, l14, y14, z14⟩, st14⟩ := Jvm.LawKit.callS X13 hx (y := (⟨"com/example/subsumption/subsumption/tableau/IntegerProgramRootPinLaw", "lab", "(III)I"⟩ : MethodName)) hown (mvT hZ (hw _ (List.mem_of_getElem? (i := 2) rfl))) (mvT hZ (hw _ (List.mem_of_getElem? (i := 3) rfl))) (mvT hZ (hw _ (List.mem_of_getElem? (i := 4) rfl))) (mvT hZ (hw _ (List.mem_of_getElem? (i := 5) rfl))) (by decide) (backOf (W := 1) (rm1 l Z a0 hw [] 1 (mm + 1) kk h13 n0 (Nat.le_trans Z0 K13.1) (by decide) (Nat.succ_lt_succ hm) hk) hZ (hw _ (List.mem_of_getElem? (i := 5) rfl)) (hw _ (List.mem_of_getElem? (i := 4) rfl)) (by decide) (by decide)) (g := (mkF m 97 #[.val (.int p0), .val (.int p1), .val (.int p2), .val (.int p3), .val (.int p4), .val (.int p5), .val (.int (own_I (mm + 1))), .val (.int (own_I kk)), .val (.ref b1), .val (.ref b7), .unset, .unset, .unset] [(.int (own_I kk)), (.int (own_I (mm + 1))), (.int (1 : Int32)), (.ref b7)])) rfl (by rw [hml]; rfl) (argsL := [(.int (1 : Int32)), (.int (own_I (mm + 1))), (.int (own_I kk))]) (rest := [(.ref b7)]) (lenOf pd0_0 rfl) rfl (by show 2 * 0 + _ ≤ _; exact Nat.le_of_eq rfl) (hb hby at_97) (fun _ _ => ⟨rfl, e13, (by decide : 2 + 0 ≤ _), (by decide : 10 + 0 ≤ _)⟩)
  dsimp only [Pt.U, Pt.locs, Pt.cells, Pt.slots] at X14 l14 y14 z14 st14 hQ14
  subst y14 z14
  have X14 : Stand p l e room_1 s m #[(.int p0), (.int p1), (.int p2), (.int p3), (.int p4), (.int p5)] below meth c T14 _ 2 10 := X14
  obtain ⟨rfl, N14q, e14⟩ := hQ14
  have N14 : Fr n0 L14 := by rw [l14]; exact Fr.app N13 N14q
  refine own_go (st14) ?_
  show own_Fin p.tables e below (T14.setTop (mkF m 100 #[.val (.int p0), .val (.int p1), .val (.int p2), .val (.int p3), .val (.int p4), .val (.int p5), .val (.int (own_I (mm + 1))), .val (.int (own_I kk)), .val (.ref b1), .val (.ref b7), .unset, .unset, .unset] [(.int (own_I (own_lab 1 (mm + 1) kk))), (.ref b7)])) _
  refine own_go (B := T14.setTop (mkF m 103 #[.val (.int p0), .val (.int p1), .val (.int p2), .val (.int p3), .val (.int p4), .val (.int p5), .val (.int (own_I (mm + 1))), .val (.int (own_I kk)), .val (.ref b1), .val (.ref b7), .unset, .unset, .unset] [(.int (1 : Int32)), (.ref b1), (.int (own_I (own_lab 1 (mm + 1) kk))), (.ref b7)])) (fun t k => ?_) ?_
  · show Steps p.tables e below (T14.setTop (mkF m 100 #[.val (.int p0), .val (.int p1), .val (.int p2), .val (.int p3), .val (.int p4), .val (.int p5), .val (.int (own_I (mm + 1))), .val (.int (own_I kk)), .val (.ref b1), .val (.ref b7), .unset, .unset, .unset] [(.int (own_I (own_lab 1 (mm + 1) kk))), (.ref b7)])) t
    refine XS.aload X14.here hx rfl (hb hby at_100) rfl rfl ?_
    refine XS.iconst X14.here hx rfl (hb hby at_102) ?_
    exact k
  have f16 := (f11.other W13 ne8)
  obtain ⟨cl15, Ar15, -, S15, M15, Ha15, G15⟩ := id f16
  have hin15 : ¬ ((1 : Int32) < 0 ∨ cl15.slots.size ≤ ((1 : Int32)).toNatClampNeg) := inb_of S15 ⟨by decide, by decide⟩
  have hat15 : cl15.slots[((1 : Int32)).toNatClampNeg]? = some (.int (own_I q1)) := Has.at Ha15 hin15 rfl
  refine own_go (B := T14.setTop (mkF m 104 #[.val (.int p0), .val (.int p1), .val (.int p2), .val (.int p3), .val (.int p4), .val (.int p5), .val (.int (own_I (mm + 1))), .val (.int (own_I kk)), .val (.ref b1), .val (.ref b7), .unset, .unset, .unset] [(.int (own_I q1)), (.int (own_I (own_lab 1 (mm + 1) kk))), (.ref b7)])) (fun t k => ?_) ?_
  · exact X14.iaload hx (j := (1 : Int32)) (v := (.int (own_I q1))) (by rw [e14]; exact Ar15.1) (State.isArrayOf_alike hZ.alike Ar15.2.1) Ar15.2.2 hin15 hat15 (g := (mkF m 103 #[.val (.int p0), .val (.int p1), .val (.int p2), .val (.int p3), .val (.int p4), .val (.int p5), .val (.int (own_I (mm + 1))), .val (.int (own_I kk)), .val (.ref b1), .val (.ref b7), .unset, .unset, .unset] [(.int (1 : Int32)), (.ref b1), (.int (own_I (own_lab 1 (mm + 1) kk))), (.ref b7)])) rfl rfl (hb hby at_103) _ k
  refine own_go (B := T14.setTop (mkF m 108 #[.val (.int p0), .val (.int p1), .val (.int p2), .val (.int p3), .val (.int p4), .val (.int p5), .val (.int (own_I (mm + 1))), .val (.int (own_I kk)), .val (.ref b1), .val (.ref b7), .unset, .unset, .unset] [(.int (own_I kk)), (.int (own_I (mm + 1))), (.int (own_I q1)), (.int (own_I (own_lab 1 (mm + 1) kk))), (.ref b7)])) (fun t k => ?_) ?_
  · show Steps p.tables e below (T14.setTop (mkF m 104 #[.val (.int p0), .val (.int p1), .val (.int p2), .val (.int p3), .val (.int p4), .val (.int p5), .val (.int (own_I (mm + 1))), .val (.int (own_I kk)), .val (.ref b1), .val (.ref b7), .unset, .unset, .unset] [(.int (own_I q1)), (.int (own_I (own_lab 1 (mm + 1) kk))), (.ref b7)])) t
    refine XS.iload X14.here hx rfl (hb hby at_104) rfl ?_
    refine XS.iload X14.here hx rfl (hb hby at_106) rfl ?_
    exact k
  obtain ⟨_, _, ⟨T17, L17, k17, n17⟩, -, X17, ⟨Lc17, hQ17, l17, y17, z17⟩, st17⟩ := Jvm.LawKit.callS X14 hx (y := (⟨"com/example/subsumption/subsumption/tableau/IntegerProgramRootPinLaw", "lab", "(III)I"⟩ : MethodName)) hown (mvT hZ (hw _ (List.mem_of_getElem? (i := 2) rfl))) (mvT hZ (hw _ (List.mem_of_getElem? (i := 3) rfl))) (mvT hZ (hw _ (List.mem_of_getElem? (i := 4) rfl))) (mvT hZ (hw _ (List.mem_of_getElem? (i := 5) rfl))) (by decide) (backOf (W := 2) (rm1 l Z a0 hw [] q1 (mm + 1) kk h13 n0 (Nat.le_trans Z0 K13.1) (Nat.lt_of_lt_of_le hq1 (by decide)) (Nat.succ_lt_succ hm) hk) hZ (hw _ (List.mem_of_getElem? (i := 5) rfl)) (hw _ (List.mem_of_getElem? (i := 4) rfl)) (by decide) (by decide)) (g := (mkF m 108 #[.val (.int p0), .val (.int p1), .val (.int p2), .val (.int p3), .val (.int p4), .val (.int p5), .val (.int (own_I (mm + 1))), .val (.int (own_I kk)), .val (.ref b1), .val (.ref b7), .unset, .unset, .unset] [(.int (own_I kk)), (.int (own_I (mm + 1))), (.int (own_I q1)), (.int (own_I (own_lab 1 (mm + 1) kk))), (.ref b7)])) rfl (by rw [hml]; rfl) (argsL := [(.int (own_I q1)), (.int (own_I (mm + 1))), (.int (own_I kk))]) (rest := [(.int (own_I (own_lab 1 (mm + 1) kk))), (.ref b7)]) (lenOf pd0_0 rfl) rfl (by show 2 * 0 + _ ≤ _; exact Nat.le_of_eq rfl) (hb hby at_108) (fun _ _ => ⟨rfl, e14, (by decide : 2 + 0 ≤ _), (by decide : 10 + 0 ≤ _)⟩)
  dsimp only [Pt.U, Pt.locs, Pt.cells, Pt.slots] at X17 l17 y17 z17 st17 hQ17
  subst y17 z17
  have X17 : Stand p l e room_1 s m #[(.int p0), (.int p1), (.int p2), (.int p3), (.int p4), (.int p5)] below meth c T17 _ 2 10 := X17
  obtain ⟨rfl, N17q, e17⟩ := hQ17
  have N17 : Fr n0 L17 := by rw [l17]; exact Fr.app N14 N17q
  refine own_go (st17) ?_
  show own_Fin p.tables e below (T17.setTop (mkF m 111 #[.val (.int p0), .val (.int p1), .val (.int p2), .val (.int p3), .val (.int p4), .val (.int p5), .val (.int (own_I (mm + 1))), .val (.int (own_I kk)), .val (.ref b1), .val (.ref b7), .unset, .unset, .unset] [(.int (own_I (own_lab q1 (mm + 1) kk))), (.int (own_I (own_lab 1 (mm + 1) kk))), (.ref b7)])) _
  obtain ⟨cl18, Ar18, q18, S18, M18, Ha18, G18⟩ := id V13
  have hin18 : ¬ ((own_I (own_lab 1 (mm + 1) kk)) < 0 ∨ cl18.slots.size ≤ ((own_I (own_lab 1 (mm + 1) kk))).toNatClampNeg) := inb_of S18 (own_inB (own_lab5 _ _ _))
  obtain ⟨T18, h18, X18, e18, W18, st18⟩ := stI X17 hx hZ e17 Ar18 (j := (own_I (own_lab 1 (mm + 1) kk))) hin18 (g := (mkF m 111 #[.val (.int p0), .val (.int p1), .val (.int p2), .val (.int p3), .val (.int p4), .val (.int p5), .val (.int (own_I (mm + 1))), .val (.int (own_I kk)), .val (.ref b1), .val (.ref b7), .unset, .unset, .unset] [(.int (own_I (own_lab q1 (mm + 1) kk))), (.int (own_I (own_lab 1 (mm + 1) kk))), (.ref b7)])) rfl rfl (hb hby at_111)
  have N18 := Fr.snoc X18 N17 g_b7
  have K18 : Keep h0 h18 [] := K13.wr W18 (Or.inr sz_b7)
  have V18 : Arv Z h18 b7 k7 .int (5 : Int32) (((([0, 0, 0, 0, 0] : List Nat).set (own_lab 0 (mm + 1) kk) (own_lab 0 (mm + 1) kk)).set (own_lab 1 (mm + 1) kk) (own_lab q1 (mm + 1) kk)).map own_V) (.int (0 : Int32)) := own_set5 (Arv.set Ar18 q18 S18 M18 Ha18 G18 rfl W18 (own_lab 1 (mm + 1) kk) (own_nat (own_lab5 _ _ _)) (by simp only [List.length_map, List.length_set]; exact own_lab5 _ _ _))
  refine own_go st18 ?_
  show own_Fin p.tables e below (T18.setTop (mkF m 112 #[.val (.int p0), .val (.int p1), .val (.int p2), .val (.int p3), .val (.int p4), .val (.int p5), .val (.int (own_I (mm + 1))), .val (.int (own_I kk)), .val (.ref b1), .val (.ref b7), .unset, .unset, .unset] [])) _
  refine own_go (B := T18.setTop (mkF m 119 #[.val (.int p0), .val (.int p1), .val (.int p2), .val (.int p3), .val (.int p4), .val (.int p5), .val (.int (own_I (mm + 1))), .val (.int (own_I kk)), .val (.ref b1), .val (.ref b7), .unset, .unset, .unset] [(.int (own_I kk)), (.int (own_I (mm + 1))), (.int (2 : Int32)), (.ref b7)])) (fun t k => ?_) ?_
  · show Steps p.tables e below (T18.setTop (mkF m 112 #[.val (.int p0), .val (.int p1), .val (.int p2), .val (.int p3), .val (.int p4), .val (.int p5), .val (.int (own_I (mm + 1))), .val (.int (own_I kk)), .val (.ref b1), .val (.ref b7), .unset, .unset, .unset] [])) t
    refine XS.aload X18.here hx rfl (hb hby at_112) rfl rfl ?_
    refine XS.iconst X18.here hx rfl (hb hby at_114) ?_
    refine XS.iload X18.here hx rfl (hb hby at_115) rfl ?_
    refine XS.iload X18.here hx rfl (hb hby at_117) rfl ?_
    exact k
  obtain ⟨_, _, ⟨T19, L19, k19, n19⟩, -, X19, ⟨Lc19, hQ19, l19, y19, z19⟩, st19⟩ := Jvm.LawKit.callS X18 hx (y := (⟨"com/example/subsumption/subsumption/tableau/IntegerProgramRootPinLaw", "lab", "(III)I"⟩ : MethodName)) hown (mvT hZ (hw _ (List.mem_of_getElem? (i := 2) rfl))) (mvT hZ (hw _ (List.mem_of_getElem? (i := 3) rfl))) (mvT hZ (hw _ (List.mem_of_getElem? (i := 4) rfl))) (mvT hZ (hw _ (List.mem_of_getElem? (i := 5) rfl))) (by decide) (backOf (W := 1) (rm1 l Z a0 hw [] 2 (mm + 1) kk h18 n0 (Nat.le_trans Z0 K18.1) (by decide) (Nat.succ_lt_succ hm) hk) hZ (hw _ (List.mem_of_getElem? (i := 5) rfl)) (hw _ (List.mem_of_getElem? (i := 4) rfl)) (by decide) (by decide)) (g := (mkF m 119 #[.val (.int p0), .val (.int p1), .val (.int p2), .val (.int p3), .val (.int p4), .val (.int p5), .val (.int (own_I (mm + 1))), .val (.int (own_I kk)), .val (.ref b1), .val (.ref b7), .unset, .unset, .unset] [(.int (own_I kk)), (.int (own_I (mm + 1))), (.int (2 : Int32)), (.ref b7)])) rfl (by rw [hml]; rfl) (argsL := [(.int (2 : Int32)), (.int (own_I (mm + 1))), (.int (own_I kk))]) (rest := [(.ref b7)]) (lenOf pd0_0 rfl) rfl (by show 2 * 0 + _ ≤ _; exact Nat.le_of_eq rfl) (hb hby at_119) (fun _ _ => ⟨rfl, e18, (by decide : 2 + 0 ≤ _), (by decide : 10 + 0 ≤ _)⟩)
  dsimp only [Pt.U, Pt.locs, Pt.cells, Pt.slots] at X19 l19 y19 z19 st19 hQ19
  subst y19 z19
  have X19 : Stand p l e room_1 s m #[(.int p0), (.int p1), (.int p2), (.int p3), (.int p4), (.int p5)] below meth c T19 _ 2 10 := X19
  obtain ⟨rfl, N19q, e19⟩ := hQ19
  have N19 : Fr n0 L19 := by rw [l19]; exact Fr.app N18 N19q
  refine own_go (st19) ?_
  show own_Fin p.tables e below (T19.setTop (mkF m 122 #[.val (.int p0), .val (.int p1), .val (.int p2), .val (.int p3), .val (.int p4), .val (.int p5), .val (.int (own_I (mm + 1))), .val (.int (own_I kk)), .val (.ref b1), .val (.ref b7), .unset, .unset, .unset] [(.int (own_I (own_lab 2 (mm + 1) kk))), (.ref b7)])) _
  refine own_go (B := T19.setTop (mkF m 125 #[.val (.int p0), .val (.int p1), .val (.int p2), .val (.int p3), .val (.int p4), .val (.int p5), .val (.int (own_I (mm + 1))), .val (.int (own_I kk)), .val (.ref b1), .val (.ref b7), .unset, .unset, .unset] [(.int (2 : Int32)), (.ref b1), (.int (own_I (own_lab 2 (mm + 1) kk))), (.ref b7)])) (fun t k => ?_) ?_
  · show Steps p.tables e below (T19.setTop (mkF m 122 #[.val (.int p0), .val (.int p1), .val (.int p2), .val (.int p3), .val (.int p4), .val (.int p5), .val (.int (own_I (mm + 1))), .val (.int (own_I kk)), .val (.ref b1), .val (.ref b7), .unset, .unset, .unset] [(.int (own_I (own_lab 2 (mm + 1) kk))), (.ref b7)])) t
    refine XS.aload X19.here hx rfl (hb hby at_122) rfl rfl ?_
    refine XS.iconst X19.here hx rfl (hb hby at_124) ?_
    exact k
  have f21 := (f16.other W18 ne8)
  obtain ⟨cl20, Ar20, -, S20, M20, Ha20, G20⟩ := id f21
  have hin20 : ¬ ((2 : Int32) < 0 ∨ cl20.slots.size ≤ ((2 : Int32)).toNatClampNeg) := inb_of S20 ⟨by decide, by decide⟩
  have hat20 : cl20.slots[((2 : Int32)).toNatClampNeg]? = some (.int (own_I q2)) := Has.at Ha20 hin20 rfl
  refine own_go (B := T19.setTop (mkF m 126 #[.val (.int p0), .val (.int p1), .val (.int p2), .val (.int p3), .val (.int p4), .val (.int p5), .val (.int (own_I (mm + 1))), .val (.int (own_I kk)), .val (.ref b1), .val (.ref b7), .unset, .unset, .unset] [(.int (own_I q2)), (.int (own_I (own_lab 2 (mm + 1) kk))), (.ref b7)])) (fun t k => ?_) ?_
  · exact X19.iaload hx (j := (2 : Int32)) (v := (.int (own_I q2))) (by rw [e19]; exact Ar20.1) (State.isArrayOf_alike hZ.alike Ar20.2.1) Ar20.2.2 hin20 hat20 (g := (mkF m 125 #[.val (.int p0), .val (.int p1), .val (.int p2), .val (.int p3), .val (.int p4), .val (.int p5), .val (.int (own_I (mm + 1))), .val (.int (own_I kk)), .val (.ref b1), .val (.ref b7), .unset, .unset, .unset] [(.int (2 : Int32)), (.ref b1), (.int (own_I (own_lab 2 (mm + 1) kk))), (.ref b7)])) rfl rfl (hb hby at_125) _ k
  refine own_go (B := T19.setTop (mkF m 130 #[.val (.int p0), .val (.int p1), .val (.int p2), .val (.int p3), .val (.int p4), .val (.int p5), .val (.int (own_I (mm + 1))), .val (.int (own_I kk)), .val (.ref b1), .val (.ref b7), .unset, .unset, .unset] [(.int (own_I kk)), (.int (own_I (mm + 1))), (.int (own_I q2)), (.int (own_I (own_lab 2 (mm + 1) kk))), (.ref b7)])) (fun t k => ?_) ?_
  · show Steps p.tables e below (T19.setTop (mkF m 126 #[.val (.int p0), .val (.int p1), .val (.int p2), .val (.int p3), .val (.int p4), .val (.int p5), .val (.int (own_I (mm + 1))), .val (.int (own_I kk)), .val (.ref b1), .val (.ref b7), .unset, .unset, .unset] [(.int (own_I q2)), (.int (own_I (own_lab 2 (mm + 1) kk))), (.ref b7)])) t
    refine XS.iload X19.here hx rfl (hb hby at_126) rfl ?_
    refine XS.iload X19.here hx rfl (hb hby at_128) rfl ?_
    exact k
  obtain ⟨_, _, ⟨T22, L22, k22, n22⟩, -, X22, ⟨Lc22, hQ22, l22, y22, z22⟩, st22⟩ := Jvm.LawKit.callS X19 hx (y := (⟨"com/example/subsumption/subsumption/tableau/IntegerProgramRootPinLaw", "lab", "(III)I"⟩ : MethodName)) hown (mvT hZ (hw _ (List.mem_of_getElem? (i := 2) rfl))) (mvT hZ (hw _ (List.mem_of_getElem? (i := 3) rfl))) (mvT hZ (hw _ (List.mem_of_getElem? (i := 4) rfl))) (mvT hZ (hw _ (List.mem_of_getElem? (i := 5) rfl))) (by decide) (backOf (W := 2) (rm1 l Z a0 hw [] q2 (mm + 1) kk h18 n0 (Nat.le_trans Z0 K18.1) (Nat.lt_of_lt_of_le hq2 (by decide)) (Nat.succ_lt_succ hm) hk) hZ (hw _ (List.mem_of_getElem? (i := 5) rfl)) (hw _ (List.mem_of_getElem? (i := 4) rfl)) (by decide) (by decide)) (g := (mkF m 130 #[.val (.int p0), .val (.int p1), .val (.int p2), .val (.int p3), .val (.int p4), .val (.int p5), .val (.int (own_I (mm + 1))), .val (.int (own_I kk)), .val (.ref b1), .val (.ref b7), .unset, .unset, .unset] [(.int (own_I kk)), (.int (own_I (mm + 1))), (.int (own_I q2)), (.int (own_I (own_lab 2 (mm + 1) kk))), (.ref b7)])) rfl (by rw [hml]; rfl) (argsL := [(.int (own_I q2)), (.int (own_I (mm + 1))), (.int (own_I kk))]) (rest := [(.int (own_I (own_lab 2 (mm + 1) kk))), (.ref b7)]) (lenOf pd0_0 rfl) rfl (by show 2 * 0 + _ ≤ _; exact Nat.le_of_eq rfl) (hb hby at_130) (fun _ _ => ⟨rfl, e19, (by decide : 2 + 0 ≤ _), (by decide : 10 + 0 ≤ _)⟩)
  dsimp only [Pt.U, Pt.locs, Pt.cells, Pt.slots] at X22 l22 y22 z22 st22 hQ22
  subst y22 z22
  have X22 : Stand p l e room_1 s m #[(.int p0), (.int p1), (.int p2), (.int p3), (.int p4), (.int p5)] below meth c T22 _ 2 10 := X22
  obtain ⟨rfl, N22q, e22⟩ := hQ22
  have N22 : Fr n0 L22 := by rw [l22]; exact Fr.app N19 N22q
  refine own_go (st22) ?_
  show own_Fin p.tables e below (T22.setTop (mkF m 133 #[.val (.int p0), .val (.int p1), .val (.int p2), .val (.int p3), .val (.int p4), .val (.int p5), .val (.int (own_I (mm + 1))), .val (.int (own_I kk)), .val (.ref b1), .val (.ref b7), .unset, .unset, .unset] [(.int (own_I (own_lab q2 (mm + 1) kk))), (.int (own_I (own_lab 2 (mm + 1) kk))), (.ref b7)])) _
  obtain ⟨cl23, Ar23, q23, S23, M23, Ha23, G23⟩ := id V18
  have hin23 : ¬ ((own_I (own_lab 2 (mm + 1) kk)) < 0 ∨ cl23.slots.size ≤ ((own_I (own_lab 2 (mm + 1) kk))).toNatClampNeg) := inb_of S23 (own_inB (own_lab5 _ _ _))
  obtain ⟨T23, h23, X23, e23, W23, st23⟩ := stI X22 hx hZ e22 Ar23 (j := (own_I (own_lab 2 (mm + 1) kk))) hin23 (g := (mkF m 133 #[.val (.int p0), .val (.int p1), .val (.int p2), .val (.int p3), .val (.int p4), .val (.int p5), .val (.int (own_I (mm + 1))), .val (.int (own_I kk)), .val (.ref b1), .val (.ref b7), .unset, .unset, .unset] [(.int (own_I (own_lab q2 (mm + 1) kk))), (.int (own_I (own_lab 2 (mm + 1) kk))), (.ref b7)])) rfl rfl (hb hby at_133)
  have N23 := Fr.snoc X23 N22 g_b7
  have K23 : Keep h0 h23 [] := K18.wr W23 (Or.inr sz_b7)
  have V23 : Arv Z h23 b7 k7 .int (5 : Int32) ((((([0, 0, 0, 0, 0] : List Nat).set (own_lab 0 (mm + 1) kk) (own_lab 0 (mm + 1) kk)).set (own_lab 1 (mm + 1) kk) (own_lab q1 (mm + 1) kk)).set (own_lab 2 (mm + 1) kk) (own_lab q2 (mm + 1) kk)).map own_V) (.int (0 : Int32)) := own_set5 (Arv.set Ar23 q23 S23 M23 Ha23 G23 rfl W23 (own_lab 2 (mm + 1) kk) (own_nat (own_lab5 _ _ _)) (by simp only [List.length_map, List.length_set]; exact own_lab5 _ _ _))
  refine own_go st23 ?_
  show own_Fin p.tables e below (T23.setTop (mkF m 134 #[.val (.int p0), .val (.int p1), .val (.int p2), .val (.int p3), .val (.int p4), .val (.int p5), .val (.int (own_I (mm + 1))), .val (.int (own_I kk)), .val (.ref b1), .val (.ref b7), .unset, .unset, .unset] [])) _
  refine own_go (B := T23.setTop (mkF m 141 #[.val (.int p0), .val (.int p1), .val (.int p2), .val (.int p3), .val (.int p4), .val (.int p5), .val (.int (own_I (mm + 1))), .val (.int (own_I kk)), .val (.ref b1), .val (.ref b7), .unset, .unset, .unset] [(.int (own_I kk)), (.int (own_I (mm + 1))), (.int (3 : Int32)), (.ref b7)])) (fun t k => ?_) ?_
  · show Steps p.tables e below (T23.setTop (mkF m 134 #[.val (.int p0), .val (.int p1), .val (.int p2), .val (.int p3), .val (.int p4), .val (.int p5), .val (.int (own_I (mm + 1))), .val (.int (own_I kk)), .val (.ref b1), .val (.ref b7), .unset, .unset, .unset] [])) t
    refine XS.aload X23.here hx rfl (hb hby at_134) rfl rfl ?_
    refine XS.iconst X23.here hx rfl (hb hby at_136) ?_
    refine XS.iload X23.here hx rfl (hb hby at_137) rfl ?_
    refine XS.iload X23.here hx rfl (hb hby at_139) rfl ?_
    exact k
  obtain ⟨_, _, ⟨T24, L24, k24, n24⟩, -, X24, ⟨Lc24, hQ24, l24, y24, z24⟩, st24⟩ := Jvm.LawKit.callS X23 hx (y := (⟨"com/example/subsumption/subsumption/tableau/IntegerProgramRootPinLaw", "lab", "(III)I"⟩ : MethodName)) hown (mvT hZ (hw _ (List.mem_of_getElem? (i := 2) rfl))) (mvT hZ (hw _ (List.mem_of_getElem? (i := 3) rfl))) (mvT hZ (hw _ (List.mem_of_getElem? (i := 4) rfl))) (mvT hZ (hw _ (List.mem_of_getElem? (i := 5) rfl))) (by decide) (backOf (W := 1) (rm1 l Z a0 hw [] 3 (mm + 1) kk h23 n0 (Nat.le_trans Z0 K23.1) (by decide) (Nat.succ_lt_succ hm) hk) hZ (hw _ (List.mem_of_getElem? (i := 5) rfl)) (hw _ (List.mem_of_getElem? (i := 4) rfl)) (by decide) (by decide)) (g := (mkF m 141 #[.val (.int p0), .val (.int p1), .val (.int p2), .val (.int p3), .val (.int p4), .val (.int p5), .val (.int (own_I (mm + 1))), .val (.int (own_I kk)), .val (.ref b1), .val (.ref b7), .unset, .unset, .unset] [(.int (own_I kk)), (.int (own_I (mm + 1))), (.int (3 : Int32)), (.ref b7)])) rfl (by rw [hml]; rfl) (argsL := [(.int (3 : Int32)), (.int (own_I (mm + 1))), (.int (own_I kk))]) (rest := [(.ref b7)]) (lenOf pd0_0 rfl) rfl (by show 2 * 0 + _ ≤ _; exact Nat.le_of_eq rfl) (hb hby at_141) (fun _ _ => ⟨rfl, e23, (by decide : 2 + 0 ≤ _), (by decide : 10 + 0 ≤ _)⟩)
  dsimp only [Pt.U, Pt.locs, Pt.cells, Pt.slots] at X24 l24 y24 z24 st24 hQ24
  subst y24 z24
  have X24 : Stand p l e room_1 s m #[(.int p0), (.int p1), (.int p2), (.int p3), (.int p4), (.int p5)] below meth c T24 _ 2 10 := X24
  obtain ⟨rfl, N24q, e24⟩ := hQ24
  have N24 : Fr n0 L24 := by rw [l24]; exact Fr.app N23 N24q
  refine own_go (st24) ?_
  show own_Fin p.tables e below (T24.setTop (mkF m 144 #[.val (.int p0), .val (.int p1), .val (.int p2), .val (.int p3), .val (.int p4), .val (.int p5), .val (.int (own_I (mm + 1))), .val (.int (own_I kk)), .val (.ref b1), .val (.ref b7), .unset, .unset, .unset] [(.int (own_I (own_lab 3 (mm + 1) kk))), (.ref b7)])) _
  refine own_go (B := T24.setTop (mkF m 147 #[.val (.int p0), .val (.int p1), .val (.int p2), .val (.int p3), .val (.int p4), .val (.int p5), .val (.int (own_I (mm + 1))), .val (.int (own_I kk)), .val (.ref b1), .val (.ref b7), .unset, .unset, .unset] [(.int (3 : Int32)), (.ref b1), (.int (own_I (own_lab 3 (mm + 1) kk))), (.ref b7)])) (fun t k => ?_) ?_
  · show Steps p.tables e below (T24.setTop (mkF m 144 #[.val (.int p0), .val (.int p1), .val (.int p2), .val (.int p3), .val (.int p4), .val (.int p5), .val (.int (own_I (mm + 1))), .val (.int (own_I kk)), .val (.ref b1), .val (.ref b7), .unset, .unset, .unset] [(.int (own_I (own_lab 3 (mm + 1) kk))), (.ref b7)])) t
    refine XS.aload X24.here hx rfl (hb hby at_144) rfl rfl ?_
    refine XS.iconst X24.here hx rfl (hb hby at_146) ?_
    exact k
  have f26 := (f21.other W23 ne8)
  obtain ⟨cl25, Ar25, -, S25, M25, Ha25, G25⟩ := id f26
  have hin25 : ¬ ((3 : Int32) < 0 ∨ cl25.slots.size ≤ ((3 : Int32)).toNatClampNeg) := inb_of S25 ⟨by decide, by decide⟩
  have hat25 : cl25.slots[((3 : Int32)).toNatClampNeg]? = some (.int (own_I q3)) := Has.at Ha25 hin25 rfl
  refine own_go (B := T24.setTop (mkF m 148 #[.val (.int p0), .val (.int p1), .val (.int p2), .val (.int p3), .val (.int p4), .val (.int p5), .val (.int (own_I (mm + 1))), .val (.int (own_I kk)), .val (.ref b1), .val (.ref b7), .unset, .unset, .unset] [(.int (own_I q3)), (.int (own_I (own_lab 3 (mm + 1) kk))), (.ref b7)])) (fun t k => ?_) ?_
  · exact X24.iaload hx (j := (3 : Int32)) (v := (.int (own_I q3))) (by rw [e24]; exact Ar25.1) (State.isArrayOf_alike hZ.alike Ar25.2.1) Ar25.2.2 hin25 hat25 (g := (mkF m 147 #[.val (.int p0), .val (.int p1), .val (.int p2), .val (.int p3), .val (.int p4), .val (.int p5), .val (.int (own_I (mm + 1))), .val (.int (own_I kk)), .val (.ref b1), .val (.ref b7), .unset, .unset, .unset] [(.int (3 : Int32)), (.ref b1), (.int (own_I (own_lab 3 (mm + 1) kk))), (.ref b7)])) rfl rfl (hb hby at_147) _ k
  refine own_go (B := T24.setTop (mkF m 152 #[.val (.int p0), .val (.int p1), .val (.int p2), .val (.int p3), .val (.int p4), .val (.int p5), .val (.int (own_I (mm + 1))), .val (.int (own_I kk)), .val (.ref b1), .val (.ref b7), .unset, .unset, .unset] [(.int (own_I kk)), (.int (own_I (mm + 1))), (.int (own_I q3)), (.int (own_I (own_lab 3 (mm + 1) kk))), (.ref b7)])) (fun t k => ?_) ?_
  · show Steps p.tables e below (T24.setTop (mkF m 148 #[.val (.int p0), .val (.int p1), .val (.int p2), .val (.int p3), .val (.int p4), .val (.int p5), .val (.int (own_I (mm + 1))), .val (.int (own_I kk)), .val (.ref b1), .val (.ref b7), .unset, .unset, .unset] [(.int (own_I q3)), (.int (own_I (own_lab 3 (mm + 1) kk))), (.ref b7)])) t
    refine XS.iload X24.here hx rfl (hb hby at_148) rfl ?_
    refine XS.iload X24.here hx rfl (hb hby at_150) rfl ?_
    exact k
  obtain ⟨_, _, ⟨T27, L27, k27, n27⟩, -, X27, ⟨Lc27, hQ27, l27, y27, z27⟩, st27⟩ := Jvm.LawKit.callS X24 hx (y := (⟨"com/example/subsumption/subsumption/tableau/IntegerProgramRootPinLaw", "lab", "(III)I"⟩ : MethodName)) hown (mvT hZ (hw _ (List.mem_of_getElem? (i := 2) rfl))) (mvT hZ (hw _ (List.mem_of_getElem? (i := 3) rfl))) (mvT hZ (hw _ (List.mem_of_getElem? (i := 4) rfl))) (mvT hZ (hw _ (List.mem_of_getElem? (i := 5) rfl))) (by decide) (backOf (W := 2) (rm1 l Z a0 hw [] q3 (mm + 1) kk h23 n0 (Nat.le_trans Z0 K23.1) (Nat.lt_of_lt_of_le hq3 (by decide)) (Nat.succ_lt_succ hm) hk) hZ (hw _ (List.mem_of_getElem? (i := 5) rfl)) (hw _ (List.mem_of_getElem? (i := 4) rfl)) (by decide) (by decide)) (g := (mkF m 152 #[.val (.int p0), .val (.int p1), .val (.int p2), .val (.int p3), .val (.int p4), .val (.int p5), .val (.int (own_I (mm + 1))), .val (.int (own_I kk)), .val (.ref b1), .val (.ref b7), .unset, .unset, .unset] [(.int (own_I kk)), (.int (own_I (mm + 1))), (.int (own_I q3)), (.int (own_I (own_lab 3 (mm + 1) kk))), (.ref b7)])) rfl (by rw [hml]; rfl) (argsL := [(.int (own_I q3)), (.int (own_I (mm + 1))), (.int (own_I kk))]) (rest := [(.int (own_I (own_lab 3 (mm + 1) kk))), (.ref b7)]) (lenOf pd0_0 rfl) rfl (by show 2 * 0 + _ ≤ _; exact Nat.le_of_eq rfl) (hb hby at_152) (fun _ _ => ⟨rfl, e24, (by decide : 2 + 0 ≤ _), (by decide : 10 + 0 ≤ _)⟩)
  dsimp only [Pt.U, Pt.locs, Pt.cells, Pt.slots] at X27 l27 y27 z27 st27 hQ27
  subst y27 z27
  have X27 : Stand p l e room_1 s m #[(.int p0), (.int p1), (.int p2), (.int p3), (.int p4), (.int p5)] below meth c T27 _ 2 10 := X27
  obtain ⟨rfl, N27q, e27⟩ := hQ27
  have N27 : Fr n0 L27 := by rw [l27]; exact Fr.app N24 N27q
  refine own_go (st27) ?_
  show own_Fin p.tables e below (T27.setTop (mkF m 155 #[.val (.int p0), .val (.int p1), .val (.int p2), .val (.int p3), .val (.int p4), .val (.int p5), .val (.int (own_I (mm + 1))), .val (.int (own_I kk)), .val (.ref b1), .val (.ref b7), .unset, .unset, .unset] [(.int (own_I (own_lab q3 (mm + 1) kk))), (.int (own_I (own_lab 3 (mm + 1) kk))), (.ref b7)])) _
  obtain ⟨cl28, Ar28, q28, S28, M28, Ha28, G28⟩ := id V23
  have hin28 : ¬ ((own_I (own_lab 3 (mm + 1) kk)) < 0 ∨ cl28.slots.size ≤ ((own_I (own_lab 3 (mm + 1) kk))).toNatClampNeg) := inb_of S28 (own_inB (own_lab5 _ _ _))
  obtain ⟨T28, h28, X28, e28, W28, st28⟩ := stI X27 hx hZ e27 Ar28 (j := (own_I (own_lab 3 (mm + 1) kk))) hin28 (g := (mkF m 155 #[.val (.int p0), .val (.int p1), .val (.int p2), .val (.int p3), .val (.int p4), .val (.int p5), .val (.int (own_I (mm + 1))), .val (.int (own_I kk)), .val (.ref b1), .val (.ref b7), .unset, .unset, .unset] [(.int (own_I (own_lab q3 (mm + 1) kk))), (.int (own_I (own_lab 3 (mm + 1) kk))), (.ref b7)])) rfl rfl (hb hby at_155)
  have N28 := Fr.snoc X28 N27 g_b7
  have K28 : Keep h0 h28 [] := K23.wr W28 (Or.inr sz_b7)
  have V28 : Arv Z h28 b7 k7 .int (5 : Int32) (((((([0, 0, 0, 0, 0] : List Nat).set (own_lab 0 (mm + 1) kk) (own_lab 0 (mm + 1) kk)).set (own_lab 1 (mm + 1) kk) (own_lab q1 (mm + 1) kk)).set (own_lab 2 (mm + 1) kk) (own_lab q2 (mm + 1) kk)).set (own_lab 3 (mm + 1) kk) (own_lab q3 (mm + 1) kk)).map own_V) (.int (0 : Int32)) := own_set5 (Arv.set Ar28 q28 S28 M28 Ha28 G28 rfl W28 (own_lab 3 (mm + 1) kk) (own_nat (own_lab5 _ _ _)) (by simp only [List.length_map, List.length_set]; exact own_lab5 _ _ _))
  refine own_go st28 ?_
  show own_Fin p.tables e below (T28.setTop (mkF m 156 #[.val (.int p0), .val (.int p1), .val (.int p2), .val (.int p3), .val (.int p4), .val (.int p5), .val (.int (own_I (mm + 1))), .val (.int (own_I kk)), .val (.ref b1), .val (.ref b7), .unset, .unset, .unset] [])) _
  refine own_go (B := T28.setTop (mkF m 163 #[.val (.int p0), .val (.int p1), .val (.int p2), .val (.int p3), .val (.int p4), .val (.int p5), .val (.int (own_I (mm + 1))), .val (.int (own_I kk)), .val (.ref b1), .val (.ref b7), .unset, .unset, .unset] [(.int (own_I kk)), (.int (own_I (mm + 1))), (.int (4 : Int32)), (.ref b7)])) (fun t k => ?_) ?_
  · show Steps p.tables e below (T28.setTop (mkF m 156 #[.val (.int p0), .val (.int p1), .val (.int p2), .val (.int p3), .val (.int p4), .val (.int p5), .val (.int (own_I (mm + 1))), .val (.int (own_I kk)), .val (.ref b1), .val (.ref b7), .unset, .unset, .unset] [])) t
    refine XS.aload X28.here hx rfl (hb hby at_156) rfl rfl ?_
    refine XS.iconst X28.here hx rfl (hb hby at_158) ?_
    refine XS.iload X28.here hx rfl (hb hby at_159) rfl ?_
    refine XS.iload X28.here hx rfl (hb hby at_161) rfl ?_
    exact k
  obtain ⟨_, _, ⟨T29, L29, k29, n29⟩, -, X29, ⟨Lc29, hQ29, l29, y29, z29⟩, st29⟩ := Jvm.LawKit.callS X28 hx (y := (⟨"com/example/subsumption/subsumption/tableau/IntegerProgramRootPinLaw", "lab", "(III)I"⟩ : MethodName)) hown (mvT hZ (hw _ (List.mem_of_getElem? (i := 2) rfl))) (mvT hZ (hw _ (List.mem_of_getElem? (i := 3) rfl))) (mvT hZ (hw _ (List.mem_of_getElem? (i := 4) rfl))) (mvT hZ (hw _ (List.mem_of_getElem? (i := 5) rfl))) (by decide) (backOf (W := 1) (rm1 l Z a0 hw [] 4 (mm + 1) kk h28 n0 (Nat.le_trans Z0 K28.1) (by decide) (Nat.succ_lt_succ hm) hk) hZ (hw _ (List.mem_of_getElem? (i := 5) rfl)) (hw _ (List.mem_of_getElem? (i := 4) rfl)) (by decide) (by decide)) (g := (mkF m 163 #[.val (.int p0), .val (.int p1), .val (.int p2), .val (.int p3), .val (.int p4), .val (.int p5), .val (.int (own_I (mm + 1))), .val (.int (own_I kk)), .val (.ref b1), .val (.ref b7), .unset, .unset, .unset] [(.int (own_I kk)), (.int (own_I (mm + 1))), (.int (4 : Int32)), (.ref b7)])) rfl (by rw [hml]; rfl) (argsL := [(.int (4 : Int32)), (.int (own_I (mm + 1))), (.int (own_I kk))]) (rest := [(.ref b7)]) (lenOf pd0_0 rfl) rfl (by show 2 * 0 + _ ≤ _; exact Nat.le_of_eq rfl) (hb hby at_163) (fun _ _ => ⟨rfl, e28, (by decide : 2 + 0 ≤ _), (by decide : 10 + 0 ≤ _)⟩)
  dsimp only [Pt.U, Pt.locs, Pt.cells, Pt.slots] at X29 l29 y29 z29 st29 hQ29
  subst y29 z29
  have X29 : Stand p l e room_1 s m #[(.int p0), (.int p1), (.int p2), (.int p3), (.int p4), (.int p5)] below meth c T29 _ 2 10 := X29
  obtain ⟨rfl, N29q, e29⟩ := hQ29
  have N29 : Fr n0 L29 := by rw [l29]; exact Fr.app N28 N29q
  refine own_go (st29) ?_
  show own_Fin p.tables e below (T29.setTop (mkF m 166 #[.val (.int p0), .val (.int p1), .val (.int p2), .val (.int p3), .val (.int p4), .val (.int p5), .val (.int (own_I (mm + 1))), .val (.int (own_I kk)), .val (.ref b1), .val (.ref b7), .unset, .unset, .unset] [(.int (own_I (own_lab 4 (mm + 1) kk))), (.ref b7)])) _
  refine own_go (B := T29.setTop (mkF m 169 #[.val (.int p0), .val (.int p1), .val (.int p2), .val (.int p3), .val (.int p4), .val (.int p5), .val (.int (own_I (mm + 1))), .val (.int (own_I kk)), .val (.ref b1), .val (.ref b7), .unset, .unset, .unset] [(.int (4 : Int32)), (.ref b1), (.int (own_I (own_lab 4 (mm + 1) kk))), (.ref b7)])) (fun t k => ?_) ?_
  · show Steps p.tables e below (T29.setTop (mkF m 166 #[.val (.int p0), .val (.int p1), .val (.int p2), .val (.int p3), .val (.int p4), .val (.int p5), .val (.int (own_I (mm + 1))), .val (.int (own_I kk)), .val (.ref b1), .val (.ref b7), .unset, .unset, .unset] [(.int (own_I (own_lab 4 (mm + 1) kk))), (.ref b7)])) t
    refine XS.aload X29.here hx rfl (hb hby at_166) rfl rfl ?_
    refine XS.iconst X29.here hx rfl (hb hby at_168) ?_
    exact k
  have f31 := (f26.other W28 ne8)
  obtain ⟨cl30, Ar30, -, S30, M30, Ha30, G30⟩ := id f31
  have hin30 : ¬ ((4 : Int32) < 0 ∨ cl30.slots.size ≤ ((4 : Int32)).toNatClampNeg) := inb_of S30 ⟨by decide, by decide⟩
  have hat30 : cl30.slots[((4 : Int32)).toNatClampNeg]? = some (.int (own_I q4)) := Has.at Ha30 hin30 rfl
  refine own_go (B := T29.setTop (mkF m 170 #[.val (.int p0), .val (.int p1), .val (.int p2), .val (.int p3), .val (.int p4), .val (.int p5), .val (.int (own_I (mm + 1))), .val (.int (own_I kk)), .val (.ref b1), .val (.ref b7), .unset, .unset, .unset] [(.int (own_I q4)), (.int (own_I (own_lab 4 (mm + 1) kk))), (.ref b7)])) (fun t k => ?_) ?_
  · exact X29.iaload hx (j := (4 : Int32)) (v := (.int (own_I q4))) (by rw [e29]; exact Ar30.1) (State.isArrayOf_alike hZ.alike Ar30.2.1) Ar30.2.2 hin30 hat30 (g := (mkF m 169 #[.val (.int p0), .val (.int p1), .val (.int p2), .val (.int p3), .val (.int p4), .val (.int p5), .val (.int (own_I (mm + 1))), .val (.int (own_I kk)), .val (.ref b1), .val (.ref b7), .unset, .unset, .unset] [(.int (4 : Int32)), (.ref b1), (.int (own_I (own_lab 4 (mm + 1) kk))), (.ref b7)])) rfl rfl (hb hby at_169) _ k
  refine own_go (B := T29.setTop (mkF m 174 #[.val (.int p0), .val (.int p1), .val (.int p2), .val (.int p3), .val (.int p4), .val (.int p5), .val (.int (own_I (mm + 1))), .val (.int (own_I kk)), .val (.ref b1), .val (.ref b7), .unset, .unset, .unset] [(.int (own_I kk)), (.int (own_I (mm + 1))), (.int (own_I q4)), (.int (own_I (own_lab 4 (mm + 1) kk))), (.ref b7)])) (fun t k => ?_) ?_
  · show Steps p.tables e below (T29.setTop (mkF m 170 #[.val (.int p0), .val (.int p1), .val (.int p2), .val (.int p3), .val (.int p4), .val (.int p5), .val (.int (own_I (mm + 1))), .val (.int (own_I kk)), .val (.ref b1), .val (.ref b7), .unset, .unset, .unset] [(.int (own_I q4)), (.int (own_I (own_lab 4 (mm + 1) kk))), (.ref b7)])) t
    refine XS.iload X29.here hx rfl (hb hby at_170) rfl ?_
    refine XS.iload X29.here hx rfl (hb hby at_172) rfl ?_
    exact k
  obtain ⟨_, _, ⟨T32, L32, k32, n32⟩, -, X32, ⟨Lc32, hQ32, l32, y32, z32⟩, st32⟩ := Jvm.LawKit.callS X29 hx (y := (⟨"com/example/subsumption/subsumption/tableau/IntegerProgramRootPinLaw", "lab", "(III)I"⟩ : MethodName)) hown (mvT hZ (hw _ (List.mem_of_getElem? (i := 2) rfl))) (mvT hZ (hw _ (List.mem_of_getElem? (i := 3) rfl))) (mvT hZ (hw _ (List.mem_of_getElem? (i := 4) rfl))) (mvT hZ (hw _ (List.mem_of_getElem? (i := 5) rfl))) (by decide) (backOf (W := 2) (rm1 l Z a0 hw [] q4 (mm + 1) kk h28 n0 (Nat.le_trans Z0 K28.1) hq4 (Nat.succ_lt_succ hm) hk) hZ (hw _ (List.mem_of_getElem? (i := 5) rfl)) (hw _ (List.mem_of_getElem? (i := 4) rfl)) (by decide) (by decide)) (g := (mkF m 174 #[.val (.int p0), .val (.int p1), .val (.int p2), .val (.int p3), .val (.int p4), .val (.int p5), .val (.int (own_I (mm + 1))), .val (.int (own_I kk)), .val (.ref b1), .val (.ref b7), .unset, .unset, .unset] [(.int (own_I kk)), (.int (own_I (mm + 1))), (.int (own_I q4)), (.int (own_I (own_lab 4 (mm + 1) kk))), (.ref b7)])) rfl (by rw [hml]; rfl) (argsL := [(.int (own_I q4)), (.int (own_I (mm + 1))), (.int (own_I kk))]) (rest := [(.int (own_I (own_lab 4 (mm + 1) kk))), (.ref b7)]) (lenOf pd0_0 rfl) rfl (by show 2 * 0 + _ ≤ _; exact Nat.le_of_eq rfl) (hb hby at_174) (fun _ _ => ⟨rfl, e29, (by decide : 2 + 0 ≤ _), (by decide : 10 + 0 ≤ _)⟩)
  dsimp only [Pt.U, Pt.locs, Pt.cells, Pt.slots] at X32 l32 y32 z32 st32 hQ32
  subst y32 z32
  have X32 : Stand p l e room_1 s m #[(.int p0), (.int p1), (.int p2), (.int p3), (.int p4), (.int p5)] below meth c T32 _ 2 10 := X32
  obtain ⟨rfl, N32q, e32⟩ := hQ32
  have N32 : Fr n0 L32 := by rw [l32]; exact Fr.app N29 N32q
  refine own_go (st32) ?_
  show own_Fin p.tables e below (T32.setTop (mkF m 177 #[.val (.int p0), .val (.int p1), .val (.int p2), .val (.int p3), .val (.int p4), .val (.int p5), .val (.int (own_I (mm + 1))), .val (.int (own_I kk)), .val (.ref b1), .val (.ref b7), .unset, .unset, .unset] [(.int (own_I (own_lab q4 (mm + 1) kk))), (.int (own_I (own_lab 4 (mm + 1) kk))), (.ref b7)])) _
  obtain ⟨cl33, Ar33, q33, S33, M33, Ha33, G33⟩ := id V28
  have hin33 : ¬ ((own_I (own_lab 4 (mm + 1) kk)) < 0 ∨ cl33.slots.size ≤ ((own_I (own_lab 4 (mm + 1) kk))).toNatClampNeg) := inb_of S33 (own_inB (own_lab5 _ _ _))
  obtain ⟨T33, h33, X33, e33, W33, st33⟩ := stI X32 hx hZ e32 Ar33 (j := (own_I (own_lab 4 (mm + 1) kk))) hin33 (g := (mkF m 177 #[.val (.int p0), .val (.int p1), .val (.int p2), .val (.int p3), .val (.int p4), .val (.int p5), .val (.int (own_I (mm + 1))), .val (.int (own_I kk)), .val (.ref b1), .val (.ref b7), .unset, .unset, .unset] [(.int (own_I (own_lab q4 (mm + 1) kk))), (.int (own_I (own_lab 4 (mm + 1) kk))), (.ref b7)])) rfl rfl (hb hby at_177)
  have N33 := Fr.snoc X33 N32 g_b7
  have K33 : Keep h0 h33 [] := K28.wr W33 (Or.inr sz_b7)
  have V33 : Arv Z h33 b7 k7 .int (5 : Int32) ((((((([0, 0, 0, 0, 0] : List Nat).set (own_lab 0 (mm + 1) kk) (own_lab 0 (mm + 1) kk)).set (own_lab 1 (mm + 1) kk) (own_lab q1 (mm + 1) kk)).set (own_lab 2 (mm + 1) kk) (own_lab q2 (mm + 1) kk)).set (own_lab 3 (mm + 1) kk) (own_lab q3 (mm + 1) kk)).set (own_lab 4 (mm + 1) kk) (own_lab q4 (mm + 1) kk)).map own_V) (.int (0 : Int32)) := own_set5 (Arv.set Ar33 q33 S33 M33 Ha33 G33 rfl W33 (own_lab 4 (mm + 1) kk) (own_nat (own_lab5 _ _ _)) (by simp only [List.length_map, List.length_set]; exact own_lab5 _ _ _))
  refine own_go st33 ?_
  show own_Fin p.tables e below (T33.setTop (mkF m 178 #[.val (.int p0), .val (.int p1), .val (.int p2), .val (.int p3), .val (.int p4), .val (.int p5), .val (.int (own_I (mm + 1))), .val (.int (own_I kk)), .val (.ref b1), .val (.ref b7), .unset, .unset, .unset] [])) _
  refine own_go (B := T33.setTop (mkF m 185 #[.val (.int p0), .val (.int p1), .val (.int p2), .val (.int p3), .val (.int p4), .val (.int p5), .val (.int (own_I (mm + 1))), .val (.int (own_I kk)), .val (.ref b1), .val (.ref b7), .unset, .unset, .unset] [(.int ((p5 &&& (2147483647 : Int32)) % (5 : Int32)))])) (fun t k => ?_) ?_
  · show Steps p.tables e below (T33.setTop (mkF m 178 #[.val (.int p0), .val (.int p1), .val (.int p2), .val (.int p3), .val (.int p4), .val (.int p5), .val (.int (own_I (mm + 1))), .val (.int (own_I kk)), .val (.ref b1), .val (.ref b7), .unset, .unset, .unset] [])) t
    refine XS.iload X33.here hx rfl (hb hby at_178) rfl ?_
    refine X33.ldcI hx hown (mvT hZ (hw _ (List.mem_of_getElem? (i := 0) rfl))) rfl (hb hby at_180) ?_
    refine XS.iand X33.here hx rfl (hb hby at_182) rfl ?_
    refine XS.iconst X33.here hx rfl (hb hby at_183) ?_
    show Steps p.tables e below (T33.setTop (mkF m 184 #[.val (.int p0), .val (.int p1), .val (.int p2), .val (.int p3), .val (.int p4), .val (.int p5), .val (.int (own_I (mm + 1))), .val (.int (own_I kk)), .val (.ref b1), .val (.ref b7), .unset, .unset, .unset] [(.int (5 : Int32)), (.int (p5 &&& (2147483647 : Int32)))])) t
    refine Jvm.RoadKit.iremM X33 hx rfl (hb hby at_184) rfl (by decide) ?_
    exact k
  obtain ⟨r, hr, e_r⟩ : ∃ n : Nat, n < 5 ∧ ((p5 &&& (2147483647 : Int32)) % (5 : Int32)) = own_I n := own_smod p5 5 5 (by decide) (by decide) (by decide)
  refine own_go (B := T33.setTop (mkF m 185 #[.val (.int p0), .val (.int p1), .val (.int p2), .val (.int p3), .val (.int p4), .val (.int p5), .val (.int (own_I (mm + 1))), .val (.int (own_I kk)), .val (.ref b1), .val (.ref b7), .unset, .unset, .unset] [(.int (own_I r))])) (fun t k => (congrArg (fun z => Steps p.tables e below (T33.setTop (mkF m 185 #[.val (.int p0), .val (.int p1), .val (.int p2), .val (.int p3), .val (.int p4), .val (.int p5), .val (.int (own_I (mm + 1))), .val (.int (own_I kk)), .val (.ref b1), .val (.ref b7), .unset, .unset, .unset] [(.int z)])) t) (e_r)).mpr k) ?_
  refine own_go (B := T33.setTop (mkF m 197 #[.val (.int p0), .val (.int p1), .val (.int p2), .val (.int p3), .val (.int p4), .val (.int p5), .val (.int (own_I (mm + 1))), .val (.int (own_I kk)), .val (.ref b1), .val (.ref b7), .val (.int (own_I r)), .unset, .unset] [(.int (own_I r)), (.ref b1), (.ref b1), (.ref b1), (.ref b1)])) (fun t k => ?_) ?_
  · show Steps p.tables e below (T33.setTop (mkF m 185 #[.val (.int p0), .val (.int p1), .val (.int p2), .val (.int p3), .val (.int p4), .val (.int p5), .val (.int (own_I (mm + 1))), .val (.int (own_I kk)), .val (.ref b1), .val (.ref b7), .unset, .unset, .unset] [(.int (own_I r))])) t
    refine XS.istore X33.here hx rfl (hb hby at_185) rfl (l' := #[.val (.int p0), .val (.int p1), .val (.int p2), .val (.int p3), .val (.int p4), .val (.int p5), .val (.int (own_I (mm + 1))), .val (.int (own_I kk)), .val (.ref b1), .val (.ref b7), .val (.int (own_I r)), .unset, .unset]) rfl ?_
    refine XS.aload X33.here hx rfl (hb hby at_187) rfl rfl ?_
    refine XS.aload X33.here hx rfl (hb hby at_189) rfl rfl ?_
    refine XS.aload X33.here hx rfl (hb hby at_191) rfl rfl ?_
    show Steps p.tables e below (T33.setTop (mkF m 193 #[.val (.int p0), .val (.int p1), .val (.int p2), .val (.int p3), .val (.int p4), .val (.int p5), .val (.int (own_I (mm + 1))), .val (.int (own_I kk)), .val (.ref b1), .val (.ref b7), .val (.int (own_I r)), .unset, .unset] [(.ref b1), (.ref b1), (.ref b1)])) t
    refine XS.aload X33.here hx rfl (hb hby at_193) rfl rfl ?_
    refine XS.iload X33.here hx rfl (hb hby at_195) rfl ?_
    exact k
  have f35 := (f31.other W33 ne8)
  obtain ⟨cl34, Ar34, -, S34, M34, Ha34, G34⟩ := id f35
  have hin34 : ¬ ((own_I r) < 0 ∨ cl34.slots.size ≤ ((own_I r)).toNatClampNeg) := inb_of S34 (own_inB hr)
  have hat34 : cl34.slots[((own_I r)).toNatClampNeg]? = some (.int (own_I (own_qq q1 q2 q3 q4 r))) := Has.at Ha34 hin34 (own_getD _ hr)
  refine own_go (B := T33.setTop (mkF m 198 #[.val (.int p0), .val (.int p1), .val (.int p2), .val (.int p3), .val (.int p4), .val (.int p5), .val (.int (own_I (mm + 1))), .val (.int (own_I kk)), .val (.ref b1), .val (.ref b7), .val (.int (own_I r)), .unset, .unset] [(.int (own_I (own_qq q1 q2 q3 q4 r))), (.ref b1), (.ref b1), (.ref b1)])) (fun t k => ?_) ?_
  · exact X33.iaload hx (j := (own_I r)) (v := (.int (own_I (own_qq q1 q2 q3 q4 r)))) (by rw [e33]; exact Ar34.1) (State.isArrayOf_alike hZ.alike Ar34.2.1) Ar34.2.2 hin34 hat34 (g := (mkF m 197 #[.val (.int p0), .val (.int p1), .val (.int p2), .val (.int p3), .val (.int p4), .val (.int p5), .val (.int (own_I (mm + 1))), .val (.int (own_I kk)), .val (.ref b1), .val (.ref b7), .val (.int (own_I r)), .unset, .unset] [(.int (own_I r)), (.ref b1), (.ref b1), (.ref b1), (.ref b1)])) rfl rfl (hb hby at_197) _ k
  obtain ⟨cl36, Ar36, -, S36, M36, Ha36, G36⟩ := id f35
  have hin36 : ¬ ((own_I (own_qq q1 q2 q3 q4 r)) < 0 ∨ cl36.slots.size ≤ ((own_I (own_qq q1 q2 q3 q4 r))).toNatClampNeg) := inb_of S36 (own_inB (own_lt hqs _))
  have hat36 : cl36.slots[((own_I (own_qq q1 q2 q3 q4 r))).toNatClampNeg]? = some (.int (own_I (own_qq q1 q2 q3 q4 (own_qq q1 q2 q3 q4 r)))) := Has.at Ha36 hin36 (own_getD _ (own_lt hqs _))
  refine own_go (B := T33.setTop (mkF m 199 #[.val (.int p0), .val (.int p1), .val (.int p2), .val (.int p3), .val (.int p4), .val (.int p5), .val (.int (own_I (mm + 1))), .val (.int (own_I kk)), .val (.ref b1), .val (.ref b7), .val (.int (own_I r)), .unset, .unset] [(.int (own_I (own_qq q1 q2 q3 q4 (own_qq q1 q2 q3 q4 r)))), (.ref b1), (.ref b1)])) (fun t k => ?_) ?_
  · exact X33.iaload hx (j := (own_I (own_qq q1 q2 q3 q4 r))) (v := (.int (own_I (own_qq q1 q2 q3 q4 (own_qq q1 q2 q3 q4 r))))) (by rw [e33]; exact Ar36.1) (State.isArrayOf_alike hZ.alike Ar36.2.1) Ar36.2.2 hin36 hat36 (g := (mkF m 198 #[.val (.int p0), .val (.int p1), .val (.int p2), .val (.int p3), .val (.int p4), .val (.int p5), .val (.int (own_I (mm + 1))), .val (.int (own_I kk)), .val (.ref b1), .val (.ref b7), .val (.int (own_I r)), .unset, .unset] [(.int (own_I (own_qq q1 q2 q3 q4 r))), (.ref b1), (.ref b1), (.ref b1)])) rfl rfl (hb hby at_198) _ k
  obtain ⟨cl37, Ar37, -, S37, M37, Ha37, G37⟩ := id f35
  have hin37 : ¬ ((own_I (own_qq q1 q2 q3 q4 (own_qq q1 q2 q3 q4 r))) < 0 ∨ cl37.slots.size ≤ ((own_I (own_qq q1 q2 q3 q4 (own_qq q1 q2 q3 q4 r)))).toNatClampNeg) := inb_of S37 (own_inB (own_lt hqs _))
  have hat37 : cl37.slots[((own_I (own_qq q1 q2 q3 q4 (own_qq q1 q2 q3 q4 r)))).toNatClampNeg]? = some (.int (own_I (own_qq q1 q2 q3 q4 (own_qq q1 q2 q3 q4 (own_qq q1 q2 q3 q4 r))))) := Has.at Ha37 hin37 (own_getD _ (own_lt hqs _))
  refine own_go (B := T33.setTop (mkF m 200 #[.val (.int p0), .val (.int p1), .val (.int p2), .val (.int p3), .val (.int p4), .val (.int p5), .val (.int (own_I (mm + 1))), .val (.int (own_I kk)), .val (.ref b1), .val (.ref b7), .val (.int (own_I r)), .unset, .unset] [(.int (own_I (own_qq q1 q2 q3 q4 (own_qq q1 q2 q3 q4 (own_qq q1 q2 q3 q4 r))))), (.ref b1)])) (fun t k => ?_) ?_
  · exact X33.iaload hx (j := (own_I (own_qq q1 q2 q3 q4 (own_qq q1 q2 q3 q4 r)))) (v := (.int (own_I (own_qq q1 q2 q3 q4 (own_qq q1 q2 q3 q4 (own_qq q1 q2 q3 q4 r)))))) (by rw [e33]; exact Ar37.1) (State.isArrayOf_alike hZ.alike Ar37.2.1) Ar37.2.2 hin37 hat37 (g := (mkF m 199 #[.val (.int p0), .val (.int p1), .val (.int p2), .val (.int p3), .val (.int p4), .val (.int p5), .val (.int (own_I (mm + 1))), .val (.int (own_I kk)), .val (.ref b1), .val (.ref b7), .val (.int (own_I r)), .unset, .unset] [(.int (own_I (own_qq q1 q2 q3 q4 (own_qq q1 q2 q3 q4 r)))), (.ref b1), (.ref b1)])) rfl rfl (hb hby at_199) _ k
  obtain ⟨cl38, Ar38, -, S38, M38, Ha38, G38⟩ := id f35
  have hin38 : ¬ ((own_I (own_qq q1 q2 q3 q4 (own_qq q1 q2 q3 q4 (own_qq q1 q2 q3 q4 r)))) < 0 ∨ cl38.slots.size ≤ ((own_I (own_qq q1 q2 q3 q4 (own_qq q1 q2 q3 q4 (own_qq q1 q2 q3 q4 r))))).toNatClampNeg) := inb_of S38 (own_inB (own_lt hqs _))
  have hat38 : cl38.slots[((own_I (own_qq q1 q2 q3 q4 (own_qq q1 q2 q3 q4 (own_qq q1 q2 q3 q4 r))))).toNatClampNeg]? = some (.int (own_I (own_qq q1 q2 q3 q4 (own_qq q1 q2 q3 q4 (own_qq q1 q2 q3 q4 (own_qq q1 q2 q3 q4 r)))))) := Has.at Ha38 hin38 (own_getD _ (own_lt hqs _))
  refine own_go (B := T33.setTop (mkF m 201 #[.val (.int p0), .val (.int p1), .val (.int p2), .val (.int p3), .val (.int p4), .val (.int p5), .val (.int (own_I (mm + 1))), .val (.int (own_I kk)), .val (.ref b1), .val (.ref b7), .val (.int (own_I r)), .unset, .unset] [(.int (own_I (own_qq q1 q2 q3 q4 (own_qq q1 q2 q3 q4 (own_qq q1 q2 q3 q4 (own_qq q1 q2 q3 q4 r))))))])) (fun t k => ?_) ?_
  · exact X33.iaload hx (j := (own_I (own_qq q1 q2 q3 q4 (own_qq q1 q2 q3 q4 (own_qq q1 q2 q3 q4 r))))) (v := (.int (own_I (own_qq q1 q2 q3 q4 (own_qq q1 q2 q3 q4 (own_qq q1 q2 q3 q4 (own_qq q1 q2 q3 q4 r))))))) (by rw [e33]; exact Ar38.1) (State.isArrayOf_alike hZ.alike Ar38.2.1) Ar38.2.2 hin38 hat38 (g := (mkF m 200 #[.val (.int p0), .val (.int p1), .val (.int p2), .val (.int p3), .val (.int p4), .val (.int p5), .val (.int (own_I (mm + 1))), .val (.int (own_I kk)), .val (.ref b1), .val (.ref b7), .val (.int (own_I r)), .unset, .unset] [(.int (own_I (own_qq q1 q2 q3 q4 (own_qq q1 q2 q3 q4 (own_qq q1 q2 q3 q4 r))))), (.ref b1)])) rfl rfl (hb hby at_200) _ k
  refine own_go (B := T33.setTop (mkF m 211 #[.val (.int p0), .val (.int p1), .val (.int p2), .val (.int p3), .val (.int p4), .val (.int p5), .val (.int (own_I (mm + 1))), .val (.int (own_I kk)), .val (.ref b1), .val (.ref b7), .val (.int (own_I r)), .val (.int (own_I (own_qq q1 q2 q3 q4 (own_qq q1 q2 q3 q4 (own_qq q1 q2 q3 q4 (own_qq q1 q2 q3 q4 r)))))), .unset] [(.int (own_I kk)), (.int (own_I (mm + 1))), (.int (own_I r)), (.ref b7)])) (fun t k => ?_) ?_
  · show Steps p.tables e below (T33.setTop (mkF m 201 #[.val (.int p0), .val (.int p1), .val (.int p2), .val (.int p3), .val (.int p4), .val (.int p5), .val (.int (own_I (mm + 1))), .val (.int (own_I kk)), .val (.ref b1), .val (.ref b7), .val (.int (own_I r)), .unset, .unset] [(.int (own_I (own_qq q1 q2 q3 q4 (own_qq q1 q2 q3 q4 (own_qq q1 q2 q3 q4 (own_qq q1 q2 q3 q4 r))))))])) t
    refine XS.istore X33.here hx rfl (hb hby at_201) rfl (l' := #[.val (.int p0), .val (.int p1), .val (.int p2), .val (.int p3), .val (.int p4), .val (.int p5), .val (.int (own_I (mm + 1))), .val (.int (own_I kk)), .val (.ref b1), .val (.ref b7), .val (.int (own_I r)), .val (.int (own_I (own_qq q1 q2 q3 q4 (own_qq q1 q2 q3 q4 (own_qq q1 q2 q3 q4 (own_qq q1 q2 q3 q4 r)))))), .unset]) rfl ?_
    refine XS.aload X33.here hx rfl (hb hby at_203) rfl rfl ?_
    refine XS.iload X33.here hx rfl (hb hby at_205) rfl ?_
    refine XS.iload X33.here hx rfl (hb hby at_207) rfl ?_
    show Steps p.tables e below (T33.setTop (mkF m 209 #[.val (.int p0), .val (.int p1), .val (.int p2), .val (.int p3), .val (.int p4), .val (.int p5), .val (.int (own_I (mm + 1))), .val (.int (own_I kk)), .val (.ref b1), .val (.ref b7), .val (.int (own_I r)), .val (.int (own_I (own_qq q1 q2 q3 q4 (own_qq q1 q2 q3 q4 (own_qq q1 q2 q3 q4 (own_qq q1 q2 q3 q4 r)))))), .unset] [(.int (own_I (mm + 1))), (.int (own_I r)), (.ref b7)])) t
    refine XS.iload X33.here hx rfl (hb hby at_209) rfl ?_
    exact k
  obtain ⟨_, _, ⟨T39, L39, k39, n39⟩, -, X39, ⟨Lc39, hQ39, l39, y39, z39⟩, st39⟩ := Jvm.LawKit.callS X33 hx (y := (⟨"com/example/subsumption/subsumption/tableau/IntegerProgramRootPinLaw", "lab", "(III)I"⟩ : MethodName)) hown (mvT hZ (hw _ (List.mem_of_getElem? (i := 2) rfl))) (mvT hZ (hw _ (List.mem_of_getElem? (i := 3) rfl))) (mvT hZ (hw _ (List.mem_of_getElem? (i := 4) rfl))) (mvT hZ (hw _ (List.mem_of_getElem? (i := 5) rfl))) (by decide) (backOf (W := 1) (rm1 l Z a0 hw [] r (mm + 1) kk h33 n0 (Nat.le_trans Z0 K33.1) hr (Nat.succ_lt_succ hm) hk) hZ (hw _ (List.mem_of_getElem? (i := 5) rfl)) (hw _ (List.mem_of_getElem? (i := 4) rfl)) (by decide) (by decide)) (g := (mkF m 211 #[.val (.int p0), .val (.int p1), .val (.int p2), .val (.int p3), .val (.int p4), .val (.int p5), .val (.int (own_I (mm + 1))), .val (.int (own_I kk)), .val (.ref b1), .val (.ref b7), .val (.int (own_I r)), .val (.int (own_I (own_qq q1 q2 q3 q4 (own_qq q1 q2 q3 q4 (own_qq q1 q2 q3 q4 (own_qq q1 q2 q3 q4 r)))))), .unset] [(.int (own_I kk)), (.int (own_I (mm + 1))), (.int (own_I r)), (.ref b7)])) rfl (by rw [hml]; rfl) (argsL := [(.int (own_I r)), (.int (own_I (mm + 1))), (.int (own_I kk))]) (rest := [(.ref b7)]) (lenOf pd0_0 rfl) rfl (by show 2 * 0 + _ ≤ _; exact Nat.le_of_eq rfl) (hb hby at_211) (fun _ _ => ⟨rfl, e33, (by decide : 2 + 0 ≤ _), (by decide : 10 + 0 ≤ _)⟩)
  dsimp only [Pt.U, Pt.locs, Pt.cells, Pt.slots] at X39 l39 y39 z39 st39 hQ39
  subst y39 z39
  have X39 : Stand p l e room_1 s m #[(.int p0), (.int p1), (.int p2), (.int p3), (.int p4), (.int p5)] below meth c T39 _ 2 10 := X39
  obtain ⟨rfl, N39q, e39⟩ := hQ39
  have N39 : Fr n0 L39 := by rw [l39]; exact Fr.app N33 N39q
  refine own_go (st39) ?_
  show own_Fin p.tables e below (T39.setTop (mkF m 214 #[.val (.int p0), .val (.int p1), .val (.int p2), .val (.int p3), .val (.int p4), .val (.int p5), .val (.int (own_I (mm + 1))), .val (.int (own_I kk)), .val (.ref b1), .val (.ref b7), .val (.int (own_I r)), .val (.int (own_I (own_qq q1 q2 q3 q4 (own_qq q1 q2 q3 q4 (own_qq q1 q2 q3 q4 (own_qq q1 q2 q3 q4 r)))))), .unset] [(.int (own_I (own_lab r (mm + 1) kk))), (.ref b7)])) _
  obtain ⟨_, _, ⟨T40, L40, k40, n40⟩, -, X40, ⟨Lc40, hQ40, l40, y40, z40⟩, st40⟩ := Jvm.LawKit.callS X39 hx (y := (⟨"com/example/subsumption/subsumption/tableau/IntegerProgram", "root", "([II)I"⟩ : MethodName)) hown (mvT hZ (hw _ (List.mem_of_getElem? (i := 6) rfl))) (mvT hZ (hw _ (List.mem_of_getElem? (i := 7) rfl))) (mvT hZ (hw _ (List.mem_of_getElem? (i := 8) rfl))) (mvT hZ (hw _ (List.mem_of_getElem? (i := 9) rfl))) (by decide) (backOf (W := 0) (rm2 l Z a0 hw [] b7 (own_lab r (mm + 1) kk) k7 (own_par (mm + 1) kk q1 q2 q3 q4) h33 n0 (Nat.le_trans Z0 K33.1) V33 (own_par5 _ _ _ _ _ _) (own_lab5 _ _ _) (own_law hm hk hq1 hq2 hq3 hq4 hr).2) hZ (hw _ (List.mem_of_getElem? (i := 9) rfl)) (hw _ (List.mem_of_getElem? (i := 8) rfl)) (by decide) (by decide)) (g := (mkF m 214 #[.val (.int p0), .val (.int p1), .val (.int p2), .val (.int p3), .val (.int p4), .val (.int p5), .val (.int (own_I (mm + 1))), .val (.int (own_I kk)), .val (.ref b1), .val (.ref b7), .val (.int (own_I r)), .val (.int (own_I (own_qq q1 q2 q3 q4 (own_qq q1 q2 q3 q4 (own_qq q1 q2 q3 q4 (own_qq q1 q2 q3 q4 r)))))), .unset] [(.int (own_I (own_lab r (mm + 1) kk))), (.ref b7)])) rfl (by rw [hml]; rfl) (argsL := [(.ref b7), (.int (own_I (own_lab r (mm + 1) kk)))]) (rest := []) (lenOf pd0_1 rfl) rfl (by show 2 * 0 + _ ≤ _; exact Nat.le_of_eq rfl) (hb hby at_214) (fun _ _ => ⟨rfl, e39, (by decide : 2 + 0 ≤ _), (by decide : 10 + 0 ≤ _)⟩)
  dsimp only [Pt.U, Pt.locs, Pt.cells, Pt.slots] at X40 l40 y40 z40 st40 hQ40
  subst y40 z40
  have X40 : Stand p l e room_1 s m #[(.int p0), (.int p1), (.int p2), (.int p3), (.int p4), (.int p5)] below meth c T40 _ 2 10 := X40
  obtain ⟨rfl, N40q, e40⟩ := hQ40
  have N40 : Fr n0 L40 := by rw [l40]; exact Fr.app N39 N40q
  refine own_go (st40) ?_
  show own_Fin p.tables e below (T40.setTop (mkF m 217 #[.val (.int p0), .val (.int p1), .val (.int p2), .val (.int p3), .val (.int p4), .val (.int p5), .val (.int (own_I (mm + 1))), .val (.int (own_I kk)), .val (.ref b1), .val (.ref b7), .val (.int (own_I r)), .val (.int (own_I (own_qq q1 q2 q3 q4 (own_qq q1 q2 q3 q4 (own_qq q1 q2 q3 q4 (own_qq q1 q2 q3 q4 r)))))), .unset] [(.int (own_I (own_it (own_par (mm + 1) kk q1 q2 q3 q4) 4 (own_lab r (mm + 1) kk))))])) _
  refine own_go (B := T40.setTop (mkF m 227 #[.val (.int p0), .val (.int p1), .val (.int p2), .val (.int p3), .val (.int p4), .val (.int p5), .val (.int (own_I (mm + 1))), .val (.int (own_I kk)), .val (.ref b1), .val (.ref b7), .val (.int (own_I r)), .val (.int (own_I (own_qq q1 q2 q3 q4 (own_qq q1 q2 q3 q4 (own_qq q1 q2 q3 q4 (own_qq q1 q2 q3 q4 r)))))), .val (.int (own_I (own_it (own_par (mm + 1) kk q1 q2 q3 q4) 4 (own_lab r (mm + 1) kk))))] [(.int (own_I kk)), (.int (own_I (mm + 1))), (.int (own_I (own_qq q1 q2 q3 q4 (own_qq q1 q2 q3 q4 (own_qq q1 q2 q3 q4 (own_qq q1 q2 q3 q4 r)))))), (.int (own_I (own_it (own_par (mm + 1) kk q1 q2 q3 q4) 4 (own_lab r (mm + 1) kk))))])) (fun t k => ?_) ?_
  · show Steps p.tables e below (T40.setTop (mkF m 217 #[.val (.int p0), .val (.int p1), .val (.int p2), .val (.int p3), .val (.int p4), .val (.int p5), .val (.int (own_I (mm + 1))), .val (.int (own_I kk)), .val (.ref b1), .val (.ref b7), .val (.int (own_I r)), .val (.int (own_I (own_qq q1 q2 q3 q4 (own_qq q1 q2 q3 q4 (own_qq q1 q2 q3 q4 (own_qq q1 q2 q3 q4 r)))))), .unset] [(.int (own_I (own_it (own_par (mm + 1) kk q1 q2 q3 q4) 4 (own_lab r (mm + 1) kk))))])) t
    refine XS.istore X40.here hx rfl (hb hby at_217) rfl (l' := #[.val (.int p0), .val (.int p1), .val (.int p2), .val (.int p3), .val (.int p4), .val (.int p5), .val (.int (own_I (mm + 1))), .val (.int (own_I kk)), .val (.ref b1), .val (.ref b7), .val (.int (own_I r)), .val (.int (own_I (own_qq q1 q2 q3 q4 (own_qq q1 q2 q3 q4 (own_qq q1 q2 q3 q4 (own_qq q1 q2 q3 q4 r)))))), .val (.int (own_I (own_it (own_par (mm + 1) kk q1 q2 q3 q4) 4 (own_lab r (mm + 1) kk))))]) rfl ?_
    refine XS.iload X40.here hx rfl (hb hby at_219) rfl ?_
    refine XS.iload X40.here hx rfl (hb hby at_221) rfl ?_
    refine XS.iload X40.here hx rfl (hb hby at_223) rfl ?_
    show Steps p.tables e below (T40.setTop (mkF m 225 #[.val (.int p0), .val (.int p1), .val (.int p2), .val (.int p3), .val (.int p4), .val (.int p5), .val (.int (own_I (mm + 1))), .val (.int (own_I kk)), .val (.ref b1), .val (.ref b7), .val (.int (own_I r)), .val (.int (own_I (own_qq q1 q2 q3 q4 (own_qq q1 q2 q3 q4 (own_qq q1 q2 q3 q4 (own_qq q1 q2 q3 q4 r)))))), .val (.int (own_I (own_it (own_par (mm + 1) kk q1 q2 q3 q4) 4 (own_lab r (mm + 1) kk))))] [(.int (own_I (mm + 1))), (.int (own_I (own_qq q1 q2 q3 q4 (own_qq q1 q2 q3 q4 (own_qq q1 q2 q3 q4 (own_qq q1 q2 q3 q4 r)))))), (.int (own_I (own_it (own_par (mm + 1) kk q1 q2 q3 q4) 4 (own_lab r (mm + 1) kk))))])) t
    refine XS.iload X40.here hx rfl (hb hby at_225) rfl ?_
    exact k
  obtain ⟨_, _, ⟨T41, L41, k41, n41⟩, -, X41, ⟨Lc41, hQ41, l41, y41, z41⟩, st41⟩ := Jvm.LawKit.callS X40 hx (y := (⟨"com/example/subsumption/subsumption/tableau/IntegerProgramRootPinLaw", "lab", "(III)I"⟩ : MethodName)) hown (mvT hZ (hw _ (List.mem_of_getElem? (i := 2) rfl))) (mvT hZ (hw _ (List.mem_of_getElem? (i := 3) rfl))) (mvT hZ (hw _ (List.mem_of_getElem? (i := 4) rfl))) (mvT hZ (hw _ (List.mem_of_getElem? (i := 5) rfl))) (by decide) (backOf (W := 1) (rm1 l Z a0 hw [] (own_qq q1 q2 q3 q4 (own_qq q1 q2 q3 q4 (own_qq q1 q2 q3 q4 (own_qq q1 q2 q3 q4 r)))) (mm + 1) kk h33 n0 (Nat.le_trans Z0 K33.1) (own_lt hqs _) (Nat.succ_lt_succ hm) hk) hZ (hw _ (List.mem_of_getElem? (i := 5) rfl)) (hw _ (List.mem_of_getElem? (i := 4) rfl)) (by decide) (by decide)) (g := (mkF m 227 #[.val (.int p0), .val (.int p1), .val (.int p2), .val (.int p3), .val (.int p4), .val (.int p5), .val (.int (own_I (mm + 1))), .val (.int (own_I kk)), .val (.ref b1), .val (.ref b7), .val (.int (own_I r)), .val (.int (own_I (own_qq q1 q2 q3 q4 (own_qq q1 q2 q3 q4 (own_qq q1 q2 q3 q4 (own_qq q1 q2 q3 q4 r)))))), .val (.int (own_I (own_it (own_par (mm + 1) kk q1 q2 q3 q4) 4 (own_lab r (mm + 1) kk))))] [(.int (own_I kk)), (.int (own_I (mm + 1))), (.int (own_I (own_qq q1 q2 q3 q4 (own_qq q1 q2 q3 q4 (own_qq q1 q2 q3 q4 (own_qq q1 q2 q3 q4 r)))))), (.int (own_I (own_it (own_par (mm + 1) kk q1 q2 q3 q4) 4 (own_lab r (mm + 1) kk))))])) rfl (by rw [hml]; rfl) (argsL := [(.int (own_I (own_qq q1 q2 q3 q4 (own_qq q1 q2 q3 q4 (own_qq q1 q2 q3 q4 (own_qq q1 q2 q3 q4 r)))))), (.int (own_I (mm + 1))), (.int (own_I kk))]) (rest := [(.int (own_I (own_it (own_par (mm + 1) kk q1 q2 q3 q4) 4 (own_lab r (mm + 1) kk))))]) (lenOf pd0_0 rfl) rfl (by show 2 * 0 + _ ≤ _; exact Nat.le_of_eq rfl) (hb hby at_227) (fun _ _ => ⟨rfl, e40, (by decide : 2 + 0 ≤ _), (by decide : 10 + 0 ≤ _)⟩)
  dsimp only [Pt.U, Pt.locs, Pt.cells, Pt.slots] at X41 l41 y41 z41 st41 hQ41
  subst y41 z41
  have X41 : Stand p l e room_1 s m #[(.int p0), (.int p1), (.int p2), (.int p3), (.int p4), (.int p5)] below meth c T41 _ 2 10 := X41
  obtain ⟨rfl, N41q, e41⟩ := hQ41
  have N41 : Fr n0 L41 := by rw [l41]; exact Fr.app N40 N41q
  refine own_go (st41) ?_
  show own_Fin p.tables e below (T41.setTop (mkF m 230 #[.val (.int p0), .val (.int p1), .val (.int p2), .val (.int p3), .val (.int p4), .val (.int p5), .val (.int (own_I (mm + 1))), .val (.int (own_I kk)), .val (.ref b1), .val (.ref b7), .val (.int (own_I r)), .val (.int (own_I (own_qq q1 q2 q3 q4 (own_qq q1 q2 q3 q4 (own_qq q1 q2 q3 q4 (own_qq q1 q2 q3 q4 r)))))), .val (.int (own_I (own_it (own_par (mm + 1) kk q1 q2 q3 q4) 4 (own_lab r (mm + 1) kk))))] [(.int (own_I (own_lab (own_qq q1 q2 q3 q4 (own_qq q1 q2 q3 q4 (own_qq q1 q2 q3 q4 (own_qq q1 q2 q3 q4 r)))) (mm + 1) kk))), (.int (own_I (own_it (own_par (mm + 1) kk q1 q2 q3 q4) 4 (own_lab r (mm + 1) kk))))])) _
  have hc42 : (own_I (own_it (own_par (mm + 1) kk q1 q2 q3 q4) 4 (own_lab r (mm + 1) kk))) = (own_I (own_lab (own_qq q1 q2 q3 q4 (own_qq q1 q2 q3 q4 (own_qq q1 q2 q3 q4 (own_qq q1 q2 q3 q4 r)))) (mm + 1) kk)) := congrArg own_I (own_law hm hk hq1 hq2 hq3 hq4 hr).1
  refine own_go (B := T41.setTop (mkF m 238 #[.val (.int p0), .val (.int p1), .val (.int p2), .val (.int p3), .val (.int p4), .val (.int p5), .val (.int (own_I (mm + 1))), .val (.int (own_I kk)), .val (.ref b1), .val (.ref b7), .val (.int (own_I r)), .val (.int (own_I (own_qq q1 q2 q3 q4 (own_qq q1 q2 q3 q4 (own_qq q1 q2 q3 q4 (own_qq q1 q2 q3 q4 r)))))), .val (.int (own_I (own_it (own_par (mm + 1) kk q1 q2 q3 q4) 4 (own_lab r (mm + 1) kk))))] [(.int (1 : Int32))])) (fun t k => ?_) ?_
  · show Steps p.tables e below (T41.setTop (mkF m 230 #[.val (.int p0), .val (.int p1), .val (.int p2), .val (.int p3), .val (.int p4), .val (.int p5), .val (.int (own_I (mm + 1))), .val (.int (own_I kk)), .val (.ref b1), .val (.ref b7), .val (.int (own_I r)), .val (.int (own_I (own_qq q1 q2 q3 q4 (own_qq q1 q2 q3 q4 (own_qq q1 q2 q3 q4 (own_qq q1 q2 q3 q4 r)))))), .val (.int (own_I (own_it (own_par (mm + 1) kk q1 q2 q3 q4) 4 (own_lab r (mm + 1) kk))))] [(.int (own_I (own_lab (own_qq q1 q2 q3 q4 (own_qq q1 q2 q3 q4 (own_qq q1 q2 q3 q4 (own_qq q1 q2 q3 q4 r)))) (mm + 1) kk))), (.int (own_I (own_it (own_par (mm + 1) kk q1 q2 q3 q4) 4 (own_lab r (mm + 1) kk))))])) t
    refine XS.icmpNo X41.here hx rfl (hb hby at_230) rfl (teq hc42).2 ?_
    refine XS.iconst X41.here hx rfl (hb hby at_233) ?_
    refine XS.goto X41.here hx rfl (pc0 := 234) (pc' := 238) rfl (hb hby at_234) (by decide) (by decide) ?_
    exact k
  obtain ⟨fs, hr, hrun, hended, hW, hsame⟩ := X41.leave (v := some (.int (1 : Int32))) (fun h => by rw [Bd.returns] at h; cases h)
  refine ⟨_, _, ?_, hrun, hended, _, _, rfl, ?_, ⟨_, rfl⟩, hW, hsame.mono (by decide) (by decide)⟩
  · exact retOut X41 hx (t := .boolean) Bd.returns rfl (Or.inl ⟨rfl, by simp, _, rfl⟩) (hb hby at_238) hr
  · show Q0 Z p0 p1 p2 p3 p4 p5 h0 n0 _ T41.heap _
    rw [e41]
    exact ⟨rfl, N41⟩
set_option maxRecDepth 65536 in
set_option maxHeartbeats 40000000 in
theorem comes_1 {Post : Tables → Env → Array Value → State → Outcome → State → Prop} (hpost : ∀ tb e args s v u, (limb_1_1.after args s (.returned v) u = true ∧ limb_1_2.after args s (.returned v) u = true ∧ True) → FrameEnd s (.returned v) u (Jvm.fieldLocs frame_1_writes args s ++ Jvm.arrayLocs frame_1_arrays args s ++ Jvm.staticLocs frame_1_statics s) 16 128 → Post tb e args s (.returned v) u) :
    ArmFor flags0 classFile x code maxLocals ret World_1 tables_1 room_1 Calls_1 rest_1 Pre_1 Post := by
  intro l hfl _ _ p e ha hc hk s m args below hf hA hF happ hP
  obtain ⟨hcalls, hrest, hpre⟩ := hP
  obtain ⟨-, -, -, hnamed, -, -, -, hat⟩ := (Spec.applies_iff hf).mp happ
  obtain ⟨hg, hn⟩ := and_e (Cond.before_iff.mp (show (Jvm.Cond.and given_1 narrow_1).before args s = true from hpre))
  obtain ⟨hcnt, hv0⟩ := and_e hg
  obtain ⟨hk0, hv1⟩ := and_e hv0
  obtain ⟨hk1, hv2⟩ := and_e hv1
  obtain ⟨hk2, hv3⟩ := and_e hv2
  obtain ⟨hk3, hv4⟩ := and_e hv3
  obtain ⟨hk4, hv5⟩ := and_e hv4
  have hk5 := hv5
  obtain ⟨w0, w1, w2, w3, w4, w5, rfl⟩ : ∃ w0 w1 w2 w3 w4 w5 : Value, args = #[w0, w1, w2, w3, w4, w5] := by
    have hs : args.size = 6 := by simpa [Cond.value, given_1] using hcnt
    obtain ⟨L⟩ := args
    match L, hs with
    | [w0, w1, w2, w3, w4, w5], _ => exact ⟨w0, w1, w2, w3, w4, w5, rfl⟩
  have hw := fun d (hd : d ∈ tables_1) => atoms_spec (ws := Jvm.Cond.code x code maxLocals ret :: tables_1) hat d (List.mem_cons_of_mem _ hd)
  have hfit : Fit s := fun {y c} hc i hi => by
    obtain ⟨ha, rfl⟩ := Array.getElem?_eq_some_iff.mp hc
    have q := List.all_eq_true.mp ((Array.all_eq_true_iff_forall_mem.mp hF) _ (Array.getElem_mem ha)) i (List.mem_range.mpr hi)
    simpa [Array.getElem?_eq_getElem hi] using q
  obtain ⟨i0, ei0⟩ := is_v hk0
  obtain rfl : w0 = (.int i0) := Option.some.inj ei0
  obtain ⟨i1, ei1⟩ := is_v hk1
  obtain rfl : w1 = (.int i1) := Option.some.inj ei1
  obtain ⟨i2, ei2⟩ := is_v hk2
  obtain rfl : w2 = (.int i2) := Option.some.inj ei2
  obtain ⟨i3, ei3⟩ := is_v hk3
  obtain rfl : w3 = (.int i3) := Option.some.inj ei3
  obtain ⟨i4, ei4⟩ := is_v hk4
  obtain rfl : w4 = (.int i4) := Option.some.inj ei4
  obtain ⟨i5, ei5⟩ := is_v hk5
  obtain rfl : w5 = (.int i5) := Option.some.inj ei5
  obtain ⟨n, o, h1, h2, h3, _, L, rfl, ⟨rfl, N⟩, hq⟩ := rm0 l s _ hw tables_1 i0 i1 i2 i3 i4 i5  s.heap s.heap.size (Nat.le_refl _)  p e ha hc hk s m _ below hf ((Spec.applies_iff_loose hf).mp happ).1 ⟨rfl, State.Warmed39.refl s, rfl⟩ trivial
  refine ⟨n, _, h1, h2, h3, hpost _ _ _ _ _ _ ⟨Cond.after_iff.mpr rfl, Cond.after_iff.mpr (eq_i res_at (Term.int_eval (1)) rfl), trivial⟩ ⟨hq.1, hq.2.1, (hq.2.2.sift fun y hy => Or.inr (N y hy)).mono (by decide) (by decide)⟩⟩
theorem main_1_1 : Claimed_1_1 := comes_1 fun _ _ _ _ _ _ h hF => ⟨h.1, hF⟩
theorem main_1_2 : Claimed_1_2 := comes_1 fun _ _ _ _ _ _ h hF => ⟨h.2.1, hF⟩
end Jvm.Pilot.@@N@@
namespace Jvm.Pilot.@@N@@
open Jvm Jvm.ClassFile Sem Op Lib Jvm.Free Jvm.Stand Jvm.Pilot.@@N@@.Jvm.D
/-! MADE BY PROGRAM (witnessworld.py) out of the Statement's table words and the real class files: 9 classes; the members and pool entries that the words name. The judged class is class 1, her method 2. -/
namespace start1
open Jvm.ClassFile
def u (s : String) : CpInfo := .utf8 (stringToUtf16 s)
/-- a pool by its gaps: so many unusable entries, then the entry; so many at the end -/
def gap : Nat → List CpInfo → List CpInfo
  | 0, r => r
  | n + 1, r => .unusable :: gap n r
def poolList (es : List (Nat × CpInfo)) (last : Nat) : List CpInfo := es.foldr (fun e r => gap e.1 (e.2 :: r)) (gap last [])
def pool (es : List (Nat × CpInfo)) (last : Nat) : Array CpInfo := ⟨poolList es last⟩
def fileOf (pool : Array CpInfo) (this : Nat) (attrs : Array Attribute := #[]) (ms : Array MethodInfo := #[]) (fl : Nat := 33) (sup : Nat := 0) (ifs : Array Nat := #[]) (fds : Array FieldInfo := #[]) : ClassFile where
  minorVersion := 0
  majorVersion := 65
  constantPool := pool
  accessFlags := fl
  thisClass := this
  superClass := sup
  interfaces := ifs
  fields := fds
  methods := ms
  attributes := attrs
def plain (name : String) (sup : Option ClassId) : Class where
  name := name
  kind := .ordinary
  loader := none
  accessFlags := 33
  super := sup
  interfaces := #[]
  cf := none
  fields := #[]
  methods := #[]
  instanceTypes := #[]
  staticTypes := #[]
  resolved := #[]
  callSites := []
  init := .initialized
  statics := none
  mirror := none

def pool0 : Array CpInfo := pool [(5, u "<init>"), (0, u "()V"), (1, .class_ 10), (1, u "java/lang/Object")] 113

def k0m0 : Method := { name := "<init>", desc := "()V", sig := { parameters := [], returnType := none }, accessFlags := 1, code := none }
/-- java/lang/Object -/
def k0 : Class := { plain "java/lang/Object" none with
  accessFlags := 33
  interfaces := #[]
  cf := some (fileOf pool0 8 #[] #[{ accessFlags := 1, nameIndex := 5, descriptorIndex := 6, attributes := #[] }] 33 0 #[] #[])
  fields := #[]
  methods := #[k0m0]
  instanceTypes := #[]
  staticTypes := #[]
  resolved := Array.replicate 124 none
  statics := none }

def pool1 : Array CpInfo := pool [(2, .class_ 4), (1, u "java/lang/Object"), (0, u "<init>"), (0, u "()V"), (0, .integer 2147483647), (0, .methodref 9 10), (0, .class_ 11), (0, .nameAndType 12 13), (0, u "com/example/subsumption/subsumption/tableau/IntegerProgramRootPinLaw"), (0, u "lab"), (0, u "(III)I"), (0, .methodref 15 16), (0, .class_ 17), (0, .nameAndType 18 19), (0, u "com/example/subsumption/subsumption/tableau/IntegerProgram"), (0, u "root"), (0, u "([II)I"), (2, u "law"), (0, u "(IIIIII)Z")] 5

def k1m0 : Method := { name := "<init>", desc := "()V", sig := { parameters := [], returnType := none }, accessFlags := 1, code := none }
def k1c1 : Code := { maxStack := 2, maxLocals := 3, code := method_2_code, exceptionTable := #[], attributes := #[] }
def k1m1 : Method := { name := "lab", desc := "(III)I", sig := { parameters := [.int, .int, .int], returnType := some .int }, accessFlags := 10, code := some k1c1 }
def k1c2 : Code := { maxStack := 5, maxLocals := 13, code := code, exceptionTable := #[], attributes := #[] }
def k1m2 : Method := { name := "law", desc := "(IIIIII)Z", sig := { parameters := [.int, .int, .int, .int, .int, .int], returnType := some .boolean }, accessFlags := 9, code := some k1c2 }
/-- com/example/subsumption/subsumption/tableau/IntegerProgramRootPinLaw -/
def k1 : Class := { plain "com/example/subsumption/subsumption/tableau/IntegerProgramRootPinLaw" (some 0) with
  accessFlags := 49
  interfaces := #[]
  cf := some (fileOf pool1 9 #[] #[{ accessFlags := 1, nameIndex := 5, descriptorIndex := 6, attributes := #[] }, { accessFlags := 10, nameIndex := 12, descriptorIndex := 13, attributes := #[] }, { accessFlags := 9, nameIndex := 22, descriptorIndex := 23, attributes := #[] }] 49 2 #[] #[])
  fields := #[]
  methods := #[k1m0, k1m1, k1m2]
  instanceTypes := #[]
  staticTypes := #[]
  resolved := Array.replicate 29 none
  statics := none }

def pool2 : Array CpInfo := pool [(2, .class_ 4), (1, u "java/lang/Object"), (0, u "<init>"), (0, u "()V"), (4, .class_ 13), (1, u "com/example/subsumption/subsumption/tableau/IntegerProgram"), (0, u "constraints"), (0, u "Ljava/util/List;"), (2, u "variables"), (0, .class_ 20), (0, u "com/example/subsumption/subsumption/tableau/IntegerProgram$Constraint"), (49, .class_ 72), (1, u "com/example/subsumption/subsumption/tableau/IntegerProgram$Relaxation"), (10, .class_ 84), (0, u "com/example/subsumption/subsumption/tableau/IntegerProgram$Branch"), (20, .class_ 107), (1, u "com/example/subsumption/subsumption/tableau/IntegerProgram$Pricing"), (50, .class_ 159), (0, u "com/example/subsumption/subsumption/tableau/IntegerProgram$Simplex"), (5, u "ONE"), (0, u "Lcom/example/subsumption/subsumption/datatype/Rational;"), (46, u "ZERO"), (28, u "root"), (0, u "([II)I")] 14

def k2m0 : Method := { name := "<init>", desc := "()V", sig := { parameters := [], returnType := none }, accessFlags := 0, code := none }
def k2c1 : Code := { maxStack := 2, maxLocals := 3, code := prog_98_method_7_code, exceptionTable := #[], attributes := #[] }
def k2m1 : Method := { name := "root", desc := "([II)I", sig := { parameters := [(.array .int), .int], returnType := some .int }, accessFlags := 8, code := some k2c1 }
/-- com/example/subsumption/subsumption/tableau/IntegerProgram -/
def k2 : Class := { plain "com/example/subsumption/subsumption/tableau/IntegerProgram" (some 0) with
  accessFlags := 48
  interfaces := #[]
  cf := some (fileOf pool2 11 #[.nestMembers #[158, 105, 70, 83, 19]] #[{ accessFlags := 0, nameIndex := 5, descriptorIndex := 6, attributes := #[] }, { accessFlags := 8, nameIndex := 242, descriptorIndex := 243, attributes := #[] }] 48 2 #[] #[{ accessFlags := 26, nameIndex := 213, descriptorIndex := 166, attributes := #[] }, { accessFlags := 26, nameIndex := 165, descriptorIndex := 166, attributes := #[] }, { accessFlags := 18, nameIndex := 14, descriptorIndex := 15, attributes := #[] }, { accessFlags := 18, nameIndex := 18, descriptorIndex := 15, attributes := #[] }])
  fields := #[{ name := "ZERO", type := (.object "com/example/subsumption/subsumption/datatype/Rational"), accessFlags := 26, slot := 0, constantValue := 0 }, { name := "ONE", type := (.object "com/example/subsumption/subsumption/datatype/Rational"), accessFlags := 26, slot := 1, constantValue := 0 }, { name := "constraints", type := (.object "java/util/List"), accessFlags := 18, slot := 0, constantValue := 0 }, { name := "variables", type := (.object "java/util/List"), accessFlags := 18, slot := 1, constantValue := 0 }]
  methods := #[k2m0, k2m1]
  instanceTypes := #[(.object "java/util/List"), (.object "java/util/List")]
  staticTypes := #[(.object "com/example/subsumption/subsumption/datatype/Rational"), (.object "com/example/subsumption/subsumption/datatype/Rational")]
  resolved := Array.replicate 258 none
  statics := none }

def pool3 : Array CpInfo := pool [(1, u "java/lang/Cloneable"), (0, .class_ 1), (0, u "java/lang/Object"), (0, .class_ 3)] 3

/-- java/lang/Cloneable -/
def k3 : Class := { plain "java/lang/Cloneable" (some 0) with
  accessFlags := 1537
  interfaces := #[]
  cf := some (fileOf pool3 2 #[] #[] 1537 4 #[] #[])
  fields := #[]
  methods := #[]
  instanceTypes := #[]
  staticTypes := #[]
  resolved := Array.replicate 8 none
  statics := none }

def pool4 : Array CpInfo := pool [(1, u "java/io/Serializable"), (0, .class_ 1), (0, u "java/lang/Object"), (0, .class_ 3)] 3

/-- java/io/Serializable -/
def k4 : Class := { plain "java/io/Serializable" (some 0) with
  accessFlags := 1537
  interfaces := #[]
  cf := some (fileOf pool4 2 #[] #[] 1537 4 #[] #[])
  fields := #[]
  methods := #[]
  instanceTypes := #[]
  staticTypes := #[]
  resolved := Array.replicate 8 none
  statics := none }

/-- the primitive byte -/
def k5 : Class := { plain "byte" none with kind := .primitive 'B', accessFlags := 0x411 }
/-- [B -/
def k6 : Class := { plain "[B" (some 0) with kind := .array 5 .byte, interfaces := #[3, 4], accessFlags := 1041 }

/-- the primitive int -/
def k7 : Class := { plain "int" none with kind := .primitive 'I', accessFlags := 0x411 }
/-- [I -/
def k8 : Class := { plain "[I" (some 0) with kind := .array 7 .int, interfaces := #[3, 4], accessFlags := 1041 }

def heap : Heap := #[]
def classes : Array Class := #[k0, k1, k2, k3, k4, k5, k6, k7, k8]
def interned : List (Array UInt16 × Addr) := []
def slotsUsed : Nat := 0
def theMethod : MethodId := ⟨1, 2⟩
def args0 : Array Value := #[.int 1, .int 2, .int 3, .int 1, .int 2, .int 3]
def aboutOver (below : List Frame) : State where
  vm := { classes := classes, interned := interned.toArray }
  heap := heap
  slotsUsed := slotsUsed
  threads := #[{ frames := .invoking theMethod args0 :: below }]
def below0 : List Frame := [.native { method := ⟨0, 0⟩, args := #[] }]
def about1 : State := aboutOver below0
def p0 : Program := .bare "" "" ""
def e0 : Env := launch0.env 0 0 0
theorem w_frames : about1.frames = Frame.invoking theMethod args0 :: below0 := rfl
set_option maxRecDepth 65536 in
theorem w_args : argsFit about1.vm theMethod args0 = true := by decide +kernel
set_option maxRecDepth 65536 in
theorem w_heap : heapFits about1 = true := by decide +kernel
set_option maxRecDepth 65536 in
theorem w_runnable : about1.curStatus? = some .runnable := by decide +kernel
set_option maxRecDepth 65536 in
theorem w_alone : about1.alone = true := by decide +kernel
set_option maxRecDepth 65536 in
theorem w_named : about1.methodNamed? x = some theMethod := by decide +kernel
set_option maxRecDepth 65536 in
theorem w_hears : about1.hears theMethod below0 = true := by decide +kernel
set_option maxRecDepth 65536 in
theorem w_ripe : about1.ripe theMethod args0 below0 = true := by decide +kernel
theorem w_running : about1.status = .running := rfl
set_option maxRecDepth 65536 in
theorem w_room : about1.hasRoom e0.platform room_1 = true :=
  launch0.hasRoom_least _ room_1 (by decide +kernel) (by decide +kernel) (by decide +kernel) (by decide +kernel) (by decide +kernel) (by decide +kernel)
theorem allAtoms_all (ts : List Jvm.Cond) (a : Array Jvm.Value) (st : Jvm.State) : (allAtoms ts).before a st = ts.all (fun c => c.before a st) := by
  induction ts with
  | nil => rfl
  | cons c t ih =>
    show (Jvm.Cond.and c (allAtoms t)).before a st = _
    rw [Jvm.Cond.before_and, ih, List.all_cons]
def words1 : List Jvm.Cond := Jvm.Cond.code x code maxLocals ret :: tables_1
/-- a 'code' word, met by the world's own term for the bytes: nothing is compared byte by byte -/
theorem code_word {y : MethodName} {bytes : ByteArray} {mx : Nat} {rt : Option FieldType} {a : Array Value} {s : State} {m : MethodId} {meth : Method} {c : Code} (h1 : s.methodNamed? y = some m) (h2 : s.vm.method? m = some meth) (h3 : meth.code = some c) (h4 : c.code = bytes)
    (h5 : (c.maxLocals == mx && c.exceptionTable.isEmpty && decide (c.maxStack ≤ mostOperands) && decide (meth.sig.returnType = rt) && !meth.locks && decide (parseMethodDescriptor y.desc = some meth.sig)) = true) : (Jvm.Cond.code y bytes mx rt).before a s = true := by
  simp only [Bool.and_eq_true, beq_iff_eq, Bool.not_eq_true', decide_eq_true_eq] at h5
  obtain ⟨⟨⟨⟨⟨g1, g2⟩, g3⟩, g4⟩, g5⟩, g6⟩ := h5
  simp [Cond.before, Cond.holds, Cond.value, h1, h2, h3, h4, g1, g2, g3, g4, g5, g6]
def isCode : Jvm.Cond → Bool
  | .code _ _ _ _ => true
  | _ => false
theorem all_split {L : List Jvm.Cond} {P : Jvm.Cond → Bool} (h1 : L.all (fun c => isCode c || P c) = true) (h2 : ∀ c ∈ L.filter isCode, P c = true) : L.all P = true := by
  refine List.all_eq_true.mpr fun c hc => ?_
  have h := List.all_eq_true.mp h1 c hc
  rcases Bool.eq_false_or_eq_true (isCode c) with hi | hi
  · exact h2 c (List.mem_filter.mpr ⟨hc, hi⟩)
  · simpa [hi] using h
set_option maxRecDepth 65536 in
theorem w_c0 : (Jvm.Cond.code x code maxLocals ret).before args0 about1 = true := code_word (m := ⟨1, 2⟩) (meth := k1m2) (c := k1c2) (by decide +kernel) rfl rfl rfl (by decide +kernel)
set_option maxRecDepth 65536 in
theorem w_c1 : (Jvm.Cond.code ({ cls := "com/example/subsumption/subsumption/tableau/IntegerProgramRootPinLaw", name := "lab", desc := "(III)I" } : Jvm.MethodName) method_2_code (3 : Nat) (Option.some Jvm.ClassFile.FieldType.int)).before args0 about1 = true := code_word (m := ⟨1, 1⟩) (meth := k1m1) (c := k1c1) (by decide +kernel) rfl rfl rfl (by decide +kernel)
set_option maxRecDepth 65536 in
theorem w_c2 : (Jvm.Cond.code ({ cls := "com/example/subsumption/subsumption/tableau/IntegerProgram", name := "root", desc := "([II)I" } : Jvm.MethodName) prog_98_method_7_code (3 : Nat) (Option.some Jvm.ClassFile.FieldType.int)).before args0 about1 = true := code_word (m := ⟨2, 1⟩) (meth := k2m1) (c := k2c1) (by decide +kernel) rfl rfl rfl (by decide +kernel)
def codes1 : List Jvm.Cond := [Jvm.Cond.code x code maxLocals ret, Jvm.Cond.code ({ cls := "com/example/subsumption/subsumption/tableau/IntegerProgramRootPinLaw", name := "lab", desc := "(III)I" } : Jvm.MethodName) method_2_code (3 : Nat) (Option.some Jvm.ClassFile.FieldType.int), Jvm.Cond.code ({ cls := "com/example/subsumption/subsumption/tableau/IntegerProgram", name := "root", desc := "([II)I" } : Jvm.MethodName) prog_98_method_7_code (3 : Nat) (Option.some Jvm.ClassFile.FieldType.int)]
set_option maxRecDepth 65536 in
theorem codes_eq : words1.filter isCode = codes1 := rfl
theorem w_codes : ∀ c ∈ words1.filter isCode, c.before args0 about1 = true := by
  rw [codes_eq]
  intro c hc
  simp only [codes1, List.mem_cons, List.not_mem_nil, or_false] at hc
  rcases hc with rfl | rfl | rfl
  · exact w_c0
  · exact w_c1
  · exact w_c2
set_option maxRecDepth 65536 in
theorem w_t1 : words1.all (fun c => isCode c || c.before args0 about1) = true := by decide +kernel
theorem w_tables : (allAtoms (Jvm.Cond.code x code maxLocals ret :: tables_1)).before args0 about1 = true := by
  rw [allAtoms_all]
  show words1.all (fun c => c.before args0 about1) = true
  refine all_split ?_ w_codes
  rw [w_t1]
set_option maxRecDepth 65536 in
theorem w_case : (Jvm.Cond.and given_1 narrow_1).before args0 about1 = true := by decide +kernel
theorem w_applies : (headSpec (Jvm.Cond.code x code maxLocals ret :: tables_1) room_1).applies x e0.platform about1 = true :=
  (Spec.applies_iff w_frames).mpr ⟨w_running, w_runnable, w_alone, w_named, w_hears, w_ripe, w_room, w_tables⟩
theorem atStart : AtStart classFile x code maxLocals ret World_1 tables_1 room_1 Calls_1 rest_1 Pre_1 launch0 p0 e0 about1 theMethod args0 below0 :=
  ⟨lists_1, trivial, launch0.admits_env _ _ _, launch0.least_env, fairChoices_fair.cas, fairChoices_fair.clock, w_frames, w_args, w_heap, w_applies, trivial, trivial, w_case⟩
end start1
theorem witness_1 : WitnessClaimed_1 := ⟨start1.p0, start1.e0, start1.about1, start1.theMethod, start1.args0, start1.below0, start1.atStart⟩
end Jvm.Pilot.@@N@@
