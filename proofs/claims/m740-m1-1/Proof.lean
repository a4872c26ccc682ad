import JvmDerived
import JvmDerived.Pilot.@@N@@Statement
import JvmDerived.Pilot.@@N@@Code
set_option linter.unusedVariables false
set_option linter.unusedSimpArgs false
namespace Jvm.Pilot.@@N@@
open Jvm Jvm.ClassFile Sem Op Lib Jvm.Free Jvm.Stand Jvm.LawKit Jvm.RoadKit Bundle Jvm.Pilot.@@N@@.Jvm.D
/-- from the state A the run comes to an end of which R holds -/
def own_Fin (tb : Tables) (e : Env) (below : List Frame) (A : State) (R : State → Outcome → Prop) : Prop := ∃ s₂ o, Steps tb e below A s₂ ∧ R s₂ o
theorem own_in {tb : Tables} {e : Env} {below : List Frame} {A : State} {R : State → Outcome → Prop} (h : own_Fin tb e below A R) : ∃ s₂ o, Steps tb e below A s₂ ∧ R s₂ o := h
theorem own_go {tb : Tables} {e : Env} {below : List Frame} {A B : State} {R : State → Outcome → Prop} (st : ∀ t, Steps tb e below B t → Steps tb e below A t) (h : own_Fin tb e below B R) : own_Fin tb e below A R := by
  obtain ⟨s₂, o, h1, h2⟩ := h
  exact ⟨s₂, o, st _ h1, h2⟩
theorem own_beqT {P : Prop} [Decidable P] (h : ¬ P) : ifCond.holds .eq (if P then (1 : Int32) else 0) = true := by rw [if_neg h]; rfl
theorem own_beqF {P : Prop} [Decidable P] (h : P) : ifCond.holds .eq (if P then (1 : Int32) else 0) = false := by rw [if_pos h]; rfl
theorem own_bneT {P : Prop} [Decidable P] (h : P) : ifCond.holds .ne (if P then (1 : Int32) else 0) = true := by rw [if_pos h]; rfl
theorem own_bneF {P : Prop} [Decidable P] (h : ¬ P) : ifCond.holds .ne (if P then (1 : Int32) else 0) = false := by rw [if_neg h]; rfl
theorem own_bEq {P R : Prop} [Decidable P] [Decidable R] (h : P ↔ R) : (if P then (1 : Int32) else 0) = (if R then (1 : Int32) else 0) := by
  by_cases p : P
  · rw [if_pos p, if_pos (h.mp p)]
  · rw [if_neg p, if_neg fun r => p (h.mpr r)]
theorem own_bNe {P R : Prop} [Decidable P] [Decidable R] (h : ¬ (P ↔ R)) : ¬ (if P then (1 : Int32) else 0) = (if R then (1 : Int32) else 0) := by
  intro q
  apply h
  by_cases p : P <;> by_cases r : R
  · exact ⟨fun _ => r, fun _ => p⟩
  · rw [if_pos p, if_neg r] at q; exact absurd q (by decide)
  · rw [if_neg p, if_pos r] at q; exact absurd q (by decide)
  · exact ⟨fun x => absurd x p, fun x => absurd x r⟩
theorem own_fitB {P : Prop} [Decidable P] : fits .boolean (.int (if P then (1 : Int32) else 0)) = true := by by_cases p : P <;> simp only [p, if_true, if_false] <;> rfl
theorem own_narB {P : Prop} [Decidable P] : narrow .boolean (.int (if P then (1 : Int32) else 0)) = .int (if P then (1 : Int32) else 0) := by by_cases p : P <;> simp only [p, if_true, if_false] <;> rfl
abbrev own_I (n : Nat) : Int32 := Int32.ofNat n
def own_cnt (b f : Int32) : Int32 := ((b.toUInt32 >>> (((2 : Int32) * f) &&& 31).toUInt32).toInt32) &&& (3 : Int32)
def own_d (i a b c : Int32) : Int32 := (if i = (0 : Int32) then a else (if i = (1 : Int32) then b else c))
def own_o (o k n x d : Int32) : Int32 := (if k < n then (if x = d then (o + (1 : Int32)) else o) else o)
def own_fits (i n a b c cb : Int32) : Int32 :=
  if i < n then
    (if own_d i a b c < (1 : Int32) then (0 : Int32) else if (6 : Int32) < own_d i a b c then (0 : Int32) else
      if own_cnt cb (own_d i a b c) < own_o (own_o (own_o (0 : Int32) 0 n a (own_d i a b c)) 1 n b (own_d i a b c)) 2 n c (own_d i a b c) then (0 : Int32) else (1 : Int32))
  else (1 : Int32)
def own_am : List Int32 → List Int32 → Int32
  | [], _ => 1
  | d :: ds, ls => if d < (1 : Int32) then (0 : Int32) else if (6 : Int32) < d then (0 : Int32) else if (ls.getD d.toNatClampNeg 0) = (0 : Int32) then (0 : Int32) else own_am ds (ls.set d.toNatClampNeg (ls.getD d.toNatClampNeg 0 - 1))
theorem own_am_go {d : Int32} {ds ls : List Int32} (h1 : ¬ (d < (1 : Int32))) (h2 : ¬ ((6 : Int32) < d)) (h3 : ¬ ((ls.getD d.toNatClampNeg 0) = (0 : Int32))) : own_am (d :: ds) ls = own_am ds (ls.set d.toNatClampNeg (ls.getD d.toNatClampNeg 0 - 1)) := by
  show (if d < (1 : Int32) then (0 : Int32) else _) = _
  rw [if_neg h1, if_neg h2, if_neg h3]
theorem own_toI {n : Nat} (h : n < 100) : (own_I n).toInt = n := by show (Int32.ofNat n).toInt = n; rw [Int32.toInt_ofNat_of_lt (by omega)]
theorem own_ltI {i n : Nat} (h : i < n) (hn : n < 100) : own_I i < own_I n := by rw [Int32.lt_iff_toInt_lt, own_toI (by omega), own_toI hn]; omega
theorem own_nlt {i n : Nat} (h : i = n) : ¬ (own_I i < own_I n) := by subst h; exact fun q => Int32.lt_irrefl q
theorem own_inc {i : Nat} (h : i < 90) : own_I i + (1 : Int32) = own_I (i + 1) := by
  apply Int32.toInt_inj.mp
  have e := c_iadd (own_I i) 1
  have r := rng32 (own_I i + 1)
  have l1 : (1 : Int32).toInt = 1 := by decide
  rw [own_toI (by omega), l1] at e
  rw [own_toI (by omega)]
  omega
theorem own_inI {i n : Nat} (h : i < n) (hn : n < 100) : ¬ own_I i < 0 ∧ own_I i < own_I n := by
  refine ⟨?_, own_ltI h hn⟩
  rw [Int32.lt_iff_toInt_lt, own_toI (by omega)]
  have : (0 : Int32).toInt = 0 := by decide
  omega
theorem own_natI {i : Nat} (h : i < 100) : (own_I i).toNatClampNeg = i := by
  show (own_I i).toInt.toNat = i
  rw [own_toI h]; omega
theorem own_getM (l : List Int32) (x : Nat) : (l.map Value.int).getD x (.int (0 : Int32)) = .int (l.getD x 0) := by
  rw [List.getD_eq_getElem?_getD, List.getD_eq_getElem?_getD, List.getElem?_map]
  cases l[x]? <;> rfl
theorem own_getI2 (l : List Int32) {i : Nat} {d : Int32} (h : i < 100) (e : l.getD i 0 = d) : (l.map Value.int).getD (own_I i).toNatClampNeg (.int (0 : Int32)) = .int d := by rw [own_natI h, own_getM, e]
theorem own_r16 {d : Int32} (h1 : ¬ (d < (1 : Int32))) (h2 : ¬ ((6 : Int32) < d)) : 1 ≤ d.toInt ∧ d.toInt ≤ 6 := by
  rw [Int32.lt_iff_toInt_lt] at h1 h2
  have l1 : (1 : Int32).toInt = 1 := by decide
  have l2 : (6 : Int32).toInt = 6 := by decide
  omega
theorem own_in7 {d : Int32} (h1 : ¬ (d < (1 : Int32))) (h2 : ¬ ((6 : Int32) < d)) : ¬ d < 0 ∧ d < (7 : Int32) := by
  have := own_r16 h1 h2
  rw [Int32.lt_iff_toInt_lt, Int32.lt_iff_toInt_lt]
  have l1 : (0 : Int32).toInt = 0 := by decide
  have l2 : (7 : Int32).toInt = 7 := by decide
  omega
theorem own_lt7 {d : Int32} (h1 : ¬ (d < (1 : Int32))) (h2 : ¬ ((6 : Int32) < d)) : d.toNatClampNeg < 7 := by
  have := own_r16 h1 h2
  show d.toInt.toNat < 7
  omega
theorem own_setI {Z : State} {h : Heap} {a : Addr} {kc : ClassId} {ls : List Int32} {i : Nat} {x : Int32} (F : Arv Z h a kc .int (7 : Int32) ((ls.map Value.int).set i (.int x)) (.int (0 : Int32))) : Arv Z h a kc .int (7 : Int32) ((ls.set i x).map Value.int) (.int (0 : Int32)) := by rw [List.map_set]; exact F
theorem own_os {z0 z1 z2 z3 z4 z5 : Value} {sl : Slot} {v : Int32} (h : One sl) : storeLocals #[.val z0, .val z1, .val z2, .val z3, .val z4, .val z5, sl] 6 (.int v) = some #[.val z0, .val z1, .val z2, .val z3, .val z4, .val z5, .val (.int v)] := by
  rcases h with rfl | ⟨w, rfl, hw⟩
  · rfl
  · cases w <;> first | rfl | (simp [Value.category] at hw)
theorem own_and3 (x : Int32) : x &&& (3 : Int32) = 0 ∨ x &&& (3 : Int32) = 1 ∨ x &&& (3 : Int32) = 2 ∨ x &&& (3 : Int32) = 3 := by
  have e := c_mask x 3 2 (by decide) (by decide)
  simp only [← Int32.toInt_inj]
  have l0 : (0 : Int32).toInt = 0 := by decide
  have l1 : (1 : Int32).toInt = 1 := by decide
  have l2 : (2 : Int32).toInt = 2 := by decide
  have l3 : (3 : Int32).toInt = 3 := by decide
  have l4 : ((2 ^ 2 : Nat) : Int) = 4 := by decide
  rw [l4] at e
  omega
theorem own_cnt03 (b f : Int32) : 0 ≤ (own_cnt b f).toInt ∧ (own_cnt b f).toInt ≤ 3 := by
  have := c_and ((b.toUInt32 >>> (((2 : Int32) * f) &&& 31).toUInt32).toInt32) 3 (by decide)
  exact this
def own_ls (b : Int32) : List Int32 := [own_cnt b 0, own_cnt b 1, own_cnt b 2, own_cnt b 3, own_cnt b 4, own_cnt b 5, own_cnt b 6]
theorem own_six {d : Int32} (h1 : ¬ (d < (1 : Int32))) (h2 : ¬ ((6 : Int32) < d)) : d = 1 ∨ d = 2 ∨ d = 3 ∨ d = 4 ∨ d = 5 ∨ d = 6 := by
  have := own_r16 h1 h2
  simp only [← Int32.toInt_inj]
  have l1 : (1 : Int32).toInt = 1 := by decide
  have l2 : (2 : Int32).toInt = 2 := by decide
  have l3 : (3 : Int32).toInt = 3 := by decide
  have l4 : (4 : Int32).toInt = 4 := by decide
  have l5 : (5 : Int32).toInt = 5 := by decide
  have l6 : (6 : Int32).toInt = 6 := by decide
  omega
theorem own_lsAt {b d : Int32} (h1 : ¬ (d < (1 : Int32))) (h2 : ¬ ((6 : Int32) < d)) : (own_ls b).getD d.toNatClampNeg 0 = own_cnt b d := by
  rcases own_six h1 h2 with rfl | rfl | rfl | rfl | rfl | rfl <;> rfl
theorem own_setAt {ls : List Int32} {d f v : Int32} (hl : ls.length = 7) (h1 : ¬ (d < (1 : Int32))) (h2 : ¬ ((6 : Int32) < d)) (g1 : ¬ (f < (1 : Int32))) (g2 : ¬ ((6 : Int32) < f)) : (ls.set d.toNatClampNeg v).getD f.toNatClampNeg 0 = if f = d then v else ls.getD f.toNatClampNeg 0 := by
  have a1 := own_r16 h1 h2
  have a2 := own_r16 g1 g2
  have n1 : d.toNatClampNeg = d.toInt.toNat := rfl
  have n2 : f.toNatClampNeg = f.toInt.toNat := rfl
  by_cases q : f = d
  · subst q
    rw [if_pos rfl, List.getD_eq_getElem?_getD, List.getElem?_set_self (by omega)]
    rfl
  · rw [if_neg q, List.getD_eq_getElem?_getD, List.getElem?_set_ne (by intro z; apply q; apply Int32.toInt_inj.mp; omega), List.getD_eq_getElem?_getD]
theorem own_am1 {d : Int32} {ds ls : List Int32} : own_am (d :: ds) ls = if d < (1 : Int32) then (0 : Int32) else if (6 : Int32) < d then (0 : Int32) else if (ls.getD d.toNatClampNeg 0) = (0 : Int32) then (0 : Int32) else own_am ds (ls.set d.toNatClampNeg (ls.getD d.toNatClampNeg 0 - 1)) := rfl
theorem own_eq0 (x : Int32) : x = 0 ↔ x.toInt = 0 := by rw [← Int32.toInt_inj]; exact Iff.rfl
theorem own_dec {x : Int32} (h : 0 ≤ x.toInt) (h3 : x.toInt ≤ 3) (h0 : ¬ x = 0) : (x - 1).toInt = x.toInt - 1 := by
  have e := c_isub x 1
  have r := rng32 (x - 1)
  have l1 : (1 : Int32).toInt = 1 := by decide
  rw [own_eq0] at h0
  omega
theorem own_len7 (cb : Int32) : (own_ls cb).length = 7 := rfl
theorem own_t0 : (0 : Int32).toInt = 0 := by decide
theorem own_t1 : (1 : Int32).toInt = 1 := by decide
theorem own_t2 : (0 + 1 + 1 : Int32).toInt = 2 := by decide
theorem own_t3 : (0 + 1 + 1 + 1 : Int32).toInt = 3 := by decide
theorem own_four {x : Int32} (h : 0 ≤ x.toInt ∧ x.toInt ≤ 3) : x = 0 ∨ x = 1 ∨ x = 2 ∨ x = 3 := by
  simp only [← Int32.toInt_inj]
  have l0 : (0 : Int32).toInt = 0 := by decide
  have l1 : (1 : Int32).toInt = 1 := by decide
  have l2 : (2 : Int32).toInt = 2 := by decide
  have l3 : (3 : Int32).toInt = 3 := by decide
  omega
theorem own_z01 : ((1 : Int32) = 0) = False := by decide
theorem own_law0 (a b c cb : Int32) : own_am [] [own_cnt cb 0, own_cnt cb 1, own_cnt cb 2, own_cnt cb 3, own_cnt cb 4, own_cnt cb 5, own_cnt cb 6] = (if own_fits 0 0 a b c cb = 0 then (0 : Int32) else (if own_fits 1 0 a b c cb = 0 then (0 : Int32) else (if own_fits 2 0 a b c cb = 0 then (0 : Int32) else (1 : Int32)))) := by
  simp [own_am, own_fits]
theorem own_law1 (a b c cb : Int32) : own_am [a] [own_cnt cb 0, own_cnt cb 1, own_cnt cb 2, own_cnt cb 3, own_cnt cb 4, own_cnt cb 5, own_cnt cb 6] = (if own_fits 0 1 a b c cb = 0 then (0 : Int32) else (if own_fits 1 1 a b c cb = 0 then (0 : Int32) else (if own_fits 2 1 a b c cb = 0 then (0 : Int32) else (1 : Int32)))) := by
  show own_am [a] (own_ls cb) = _
  rw [own_am1]
  simp only [own_fits, own_d, own_o, if_true, if_false, (by decide : (0 : Int32) < 1), (by decide : ¬ (1 : Int32) < 1), (by decide : ¬ (2 : Int32) < 1), own_z01]
  by_cases a1 : a < 1
  · simp only [a1, if_true]
  by_cases a2 : 6 < a
  · simp only [a1, a2, if_true, if_false]
  rw [own_lsAt a1 a2]
  have x3 := own_cnt03 cb a
  generalize own_cnt cb a = x at *
  simp only [a1, a2, if_false, own_am]
  rcases own_four x3 with rfl | rfl | rfl | rfl <;> decide
theorem own_law2 (a b c cb : Int32) : own_am [a, b] [own_cnt cb 0, own_cnt cb 1, own_cnt cb 2, own_cnt cb 3, own_cnt cb 4, own_cnt cb 5, own_cnt cb 6] = (if own_fits 0 2 a b c cb = 0 then (0 : Int32) else (if own_fits 1 2 a b c cb = 0 then (0 : Int32) else (if own_fits 2 2 a b c cb = 0 then (0 : Int32) else (1 : Int32)))) := by
  show own_am [a, b] (own_ls cb) = _
  simp only [own_am1, own_am]
  simp only [own_fits, own_d, own_o, if_true, if_false, (by decide : (0 : Int32) < 2), (by decide : (1 : Int32) < 2), (by decide : ¬ (2 : Int32) < 2), own_z01]
  by_cases a1 : a < 1
  · simp only [a1, if_true]
  by_cases a2 : 6 < a
  · simp only [a1, a2, if_true, if_false]
  by_cases b1 : b < 1
  · simp only [a1, a2, b1, if_true, if_false, ite_self]
  by_cases b2 : 6 < b
  · simp only [a1, a2, b1, b2, if_true, if_false, ite_self]
  rw [own_setAt (own_len7 cb) a1 a2 b1 b2, own_lsAt a1 a2, own_lsAt b1 b2]
  have x3 := own_cnt03 cb a
  have y3 := own_cnt03 cb b
  simp only [a1, a2, b1, b2, if_false]
  by_cases q : b = a
  · subst q
    generalize own_cnt cb b = x at *
    simp only [if_true]
    rcases own_four x3 with rfl | rfl | rfl | rfl <;> decide
  · have q' : ¬ a = b := fun z => q z.symm
    simp only [q, q', if_false]
    generalize own_cnt cb a = x at *
    generalize own_cnt cb b = y at *
    rcases own_four x3 with rfl | rfl | rfl | rfl <;> rcases own_four y3 with rfl | rfl | rfl | rfl <;> decide
theorem own_len7' {ls : List Int32} {i : Nat} {v : Int32} (h : ls.length = 7) : (ls.set i v).length = 7 := by rw [List.length_set]; exact h
theorem own_law3 (a b c cb : Int32) : own_am [a, b, c] [own_cnt cb 0, own_cnt cb 1, own_cnt cb 2, own_cnt cb 3, own_cnt cb 4, own_cnt cb 5, own_cnt cb 6] = (if own_fits 0 3 a b c cb = 0 then (0 : Int32) else (if own_fits 1 3 a b c cb = 0 then (0 : Int32) else (if own_fits 2 3 a b c cb = 0 then (0 : Int32) else (1 : Int32)))) := by
  show own_am [a, b, c] (own_ls cb) = _
  simp only [own_am1, own_am]
  simp only [own_fits, own_d, own_o, if_true, if_false, (by decide : (0 : Int32) < 3), (by decide : (1 : Int32) < 3), (by decide : (2 : Int32) < 3), own_z01, (by decide : ((2 : Int32) = 0) = False), (by decide : ((2 : Int32) = 1) = False)]
  by_cases a1 : a < 1
  · simp only [a1, if_true]
  by_cases a2 : 6 < a
  · simp only [a1, a2, if_true, if_false]
  by_cases b1 : b < 1
  · simp only [a1, a2, b1, if_true, if_false, ite_self]
  by_cases b2 : 6 < b
  · simp only [a1, a2, b1, b2, if_true, if_false, ite_self]
  by_cases c1 : c < 1
  · simp only [a1, a2, b1, b2, c1, if_true, if_false, ite_self]
  by_cases c2 : 6 < c
  · simp only [a1, a2, b1, b2, c1, c2, if_true, if_false, ite_self]
  rw [own_setAt (own_len7' (own_len7 cb)) b1 b2 c1 c2, own_setAt (own_len7 cb) a1 a2 c1 c2, own_setAt (own_len7 cb) a1 a2 b1 b2, own_lsAt a1 a2, own_lsAt b1 b2, own_lsAt c1 c2]
  have x3 := own_cnt03 cb a
  have y3 := own_cnt03 cb b
  have z3 := own_cnt03 cb c
  simp only [a1, a2, b1, b2, c1, c2, if_false]
  by_cases q : b = a
  · subst q
    by_cases r : c = b
    · subst r
      generalize own_cnt cb c = x at *
      simp only [if_true]
      rcases own_four x3 with rfl | rfl | rfl | rfl <;> decide
    · have r' : ¬ b = c := fun z => r z.symm
      simp only [r, r', if_false, if_true]
      generalize own_cnt cb b = x at *
      generalize own_cnt cb c = z at *
      rcases own_four x3 with rfl | rfl | rfl | rfl <;> rcases own_four z3 with rfl | rfl | rfl | rfl <;> decide
  · have q' : ¬ a = b := fun z => q z.symm
    by_cases r : c = b
    · subst r
      simp only [q, q', if_false, if_true]
      generalize own_cnt cb a = x at *
      generalize own_cnt cb c = z at *
      rcases own_four x3 with rfl | rfl | rfl | rfl <;> rcases own_four z3 with rfl | rfl | rfl | rfl <;> decide
    · have r' : ¬ b = c := fun z => r z.symm
      by_cases t : c = a
      · subst t
        simp only [q, q', r, r', if_false, if_true]
        generalize own_cnt cb c = x at *
        generalize own_cnt cb b = y at *
        rcases own_four x3 with rfl | rfl | rfl | rfl <;> rcases own_four y3 with rfl | rfl | rfl | rfl <;> decide
      · have t' : ¬ a = c := fun z => t z.symm
        simp only [q, q', r, r', t, t', if_false, if_true]
        generalize own_cnt cb a = x at *
        generalize own_cnt cb b = y at *
        generalize own_cnt cb c = z at *
        rcases own_four x3 with rfl | rfl | rfl | rfl <;> rcases own_four y3 with rfl | rfl | rfl | rfl <;> rcases own_four z3 with rfl | rfl | rfl | rfl <;> decide
theorem d1_0 : decode method_3_code 0 = .ok (.iload_n 0, 1) := by decide +kernel
theorem d1_1 : decode method_3_code 1 = .ok (.iconst 2, 1) := by decide +kernel
theorem d1_2 : decode method_3_code 2 = .ok (.iload_n 1, 1) := by decide +kernel
theorem d1_3 : decode method_3_code 3 = .ok (.imul, 1) := by decide +kernel
theorem d1_4 : decode method_3_code 4 = .ok (.iushr, 1) := by decide +kernel
theorem d1_5 : decode method_3_code 5 = .ok (.iconst 3, 1) := by decide +kernel
theorem d1_6 : decode method_3_code 6 = .ok (.iand, 1) := by decide +kernel
theorem d1_7 : decode method_3_code 7 = .ok (.ireturn, 1) := by decide +kernel
theorem pn1 : plainName "com/example/rollhaus/rollhaus/dice/FacesAmongPinLaw" = true := by first | (simp [plainName, overriddenIn]; done) | decide +kernel
theorem ef1 (m : MethodId) (p0 : Int32) (p1 : Int32) : entryFrame m #[(.int p0), (.int p1)] 2 = mkF m 0 #[.val (.int p0), .val (.int p1)] [] := by first | (simp [entryFrame, mkF, argsToLocals, Value.category]; done) | rfl
def Q1 (Z : State) (p0 : Int32) (p1 : Int32) (h0 : Heap) (n0 : Nat) (v : Option Value) (h : Heap) (L : List Loc) : Prop := v = some (.int (own_cnt p0 p1)) ∧ Fr n0 L ∧ h = h0
set_option maxRecDepth 65536 in
set_option maxHeartbeats 40000000 in
theorem rm1 (l : Launch) (Z : State) (a0 : Array Value) (hw : ∀ d ∈ tables_1, d.before a0 Z = true) (ws : List Jvm.Cond) (p0 : Int32) (p1 : Int32) (h0 : Heap) (n0 : Nat) (Z0 : n0 ≤ h0.size) :
    MetFree l (⟨"com/example/rollhaus/rollhaus/dice/FacesAmongPinLaw", "cnt", "(II)I"⟩ : MethodName) (head1 (Jvm.Cond.code (⟨"com/example/rollhaus/rollhaus/dice/FacesAmongPinLaw", "cnt", "(II)I"⟩ : MethodName) method_3_code 2 (some .int) :: ws) ({ frames := 0, cells := 0, slots := 0, locals := 0 } : Room)) (fun a U => a = #[(.int p0), (.int p1)] ∧ Z.Warmed39 U.vm ∧ U.heap = h0) (fun _ _ _ _ _ => True) (fun _ U o U' => ∃ v L, o = .returned v ∧ Q1 Z p0 p1 h0 n0 v U'.heap L ∧ FrameEnd U o U' L ({ frames := 0, cells := 0, slots := 0, locals := 0 } : Room).cells ({ frames := 0, cells := 0, slots := 0, locals := 0 } : Room).slots) := by
  refine MetFree.of_bodySF (plainFor_of_name pn1) hisR ?_
  intro p e s m args below meth c s₁ Bd hml0 hP hK
  obtain ⟨rfl, hZ, hh⟩ := hP
  have hx := Bd.exec
  have hby := Bd.bytes
  have hml : c.maxLocals = 2 := hml0
  have hown : s.vm.findClass "com/example/rollhaus/rollhaus/dice/FacesAmongPinLaw" = some m.cls := findClass_of_methodNamed Bd.named
  have hnm := (name_of_methodNamed Bd.named Bd.method).1
  have X0 : Stand p l e ({ frames := 0, cells := 0, slots := 0, locals := 0 } : Room) s m #[(.int p0), (.int p1)] below meth c s₁ [] 0 0 := Stand.of_body Bd
  have e0 : s₁.heap = h0 := by rw [← hh, Bd.state]; rfl
  have N0 := Fr.nil n0
  have K0 : Keep h0 h0 [] := Keep.refl h0 _
  refine own_in ?_
  refine own_go (B := s₁.setTop (mkF m 0 #[.val (.int p0), .val (.int p1)] [])) (fun t k => castTop (ef1 m p0 p1) k) ?_
  refine own_go (B := s₁.setTop (mkF m 7 #[.val (.int p0), .val (.int p1)] [(.int (own_cnt p0 p1))])) (fun t k => ?_) ?_
  · show Steps p.tables e below (s₁.setTop (mkF m 0 #[.val (.int p0), .val (.int p1)] [])) t
    refine XS.iloadN X0.here hx rfl (hb hby d1_0) rfl ?_
    refine XS.iconst X0.here hx rfl (hb hby d1_1) ?_
    refine XS.iloadN X0.here hx rfl (hb hby d1_2) rfl ?_
    refine XS.imul X0.here hx rfl (hb hby d1_3) rfl ?_
    show Steps p.tables e below (s₁.setTop (mkF m 4 #[.val (.int p0), .val (.int p1)] [(.int ((2 : Int32) * p1)), (.int p0)])) t
    refine XS.iushr X0.here hx rfl (hb hby d1_4) rfl ?_
    refine XS.iconst X0.here hx rfl (hb hby d1_5) ?_
    refine XS.iand X0.here hx rfl (hb hby d1_6) rfl ?_
    exact k
  obtain ⟨fs, hr, hrun, hended, hW, hsame⟩ := X0.leave (v := some (.int (own_cnt p0 p1))) (fun h => by rw [Bd.returns] at h; cases h)
  refine ⟨_, _, ?_, hrun, hended, _, _, rfl, ?_, ⟨_, rfl⟩, hW, hsame.mono (by decide) (by decide)⟩
  · exact retOut X0 hx (t := .int) Bd.returns rfl (Or.inl ⟨rfl, by simp, _, rfl⟩) (hb hby d1_7) hr
  · show Q1 Z p0 p1 h0 n0 _ s₁.heap _
    rw [e0]
    exact ⟨rfl, N0, rfl⟩
theorem d2_0 : decode method_4_code 0 = .ok (.iload_n 0, 1) := by decide +kernel
theorem d2_1 : decode method_4_code 1 = .ok (.iload_n 1, 1) := by decide +kernel
theorem d2_2 : decode method_4_code 2 = .ok (.if_icmp .lt 5, 3) := by decide +kernel
theorem d2_5 : decode method_4_code 5 = .ok (.iconst 1, 1) := by decide +kernel
theorem d2_6 : decode method_4_code 6 = .ok (.ireturn, 1) := by decide +kernel
theorem d2_7 : decode method_4_code 7 = .ok (.iload_n 0, 1) := by decide +kernel
theorem d2_8 : decode method_4_code 8 = .ok (.ifCond .ne 7, 3) := by decide +kernel
theorem d2_11 : decode method_4_code 11 = .ok (.iload_n 2, 1) := by decide +kernel
theorem d2_12 : decode method_4_code 12 = .ok (.goto 14, 3) := by decide +kernel
theorem d2_15 : decode method_4_code 15 = .ok (.iload_n 0, 1) := by decide +kernel
theorem d2_16 : decode method_4_code 16 = .ok (.iconst 1, 1) := by decide +kernel
theorem d2_17 : decode method_4_code 17 = .ok (.if_icmp .ne 7, 3) := by decide +kernel
theorem d2_20 : decode method_4_code 20 = .ok (.iload_n 3, 1) := by decide +kernel
theorem d2_21 : decode method_4_code 21 = .ok (.goto 5, 3) := by decide +kernel
theorem d2_24 : decode method_4_code 24 = .ok (.iload 4, 2) := by decide +kernel
theorem d2_26 : decode method_4_code 26 = .ok (.istore 6, 2) := by decide +kernel
theorem d2_28 : decode method_4_code 28 = .ok (.iload 6, 2) := by decide +kernel
theorem d2_30 : decode method_4_code 30 = .ok (.iconst 1, 1) := by decide +kernel
theorem d2_31 : decode method_4_code 31 = .ok (.if_icmp .lt 10, 3) := by decide +kernel
theorem d2_34 : decode method_4_code 34 = .ok (.iload 6, 2) := by decide +kernel
theorem d2_36 : decode method_4_code 36 = .ok (.bipush 6, 2) := by decide +kernel
theorem d2_38 : decode method_4_code 38 = .ok (.if_icmp .le 5, 3) := by decide +kernel
theorem d2_41 : decode method_4_code 41 = .ok (.iconst 0, 1) := by decide +kernel
theorem d2_42 : decode method_4_code 42 = .ok (.ireturn, 1) := by decide +kernel
theorem d2_43 : decode method_4_code 43 = .ok (.iconst 0, 1) := by decide +kernel
theorem d2_44 : decode method_4_code 44 = .ok (.istore 7, 2) := by decide +kernel
theorem d2_46 : decode method_4_code 46 = .ok (.iload_n 1, 1) := by decide +kernel
theorem d2_47 : decode method_4_code 47 = .ok (.ifCond .le 12, 3) := by decide +kernel
theorem d2_50 : decode method_4_code 50 = .ok (.iload_n 2, 1) := by decide +kernel
theorem d2_51 : decode method_4_code 51 = .ok (.iload 6, 2) := by decide +kernel
theorem d2_53 : decode method_4_code 53 = .ok (.if_icmp .ne 6, 3) := by decide +kernel
theorem d2_56 : decode method_4_code 56 = .ok (.iinc 7 1, 3) := by decide +kernel
theorem d2_59 : decode method_4_code 59 = .ok (.iload_n 1, 1) := by decide +kernel
theorem d2_60 : decode method_4_code 60 = .ok (.iconst 1, 1) := by decide +kernel
theorem d2_61 : decode method_4_code 61 = .ok (.if_icmp .le 12, 3) := by decide +kernel
theorem d2_64 : decode method_4_code 64 = .ok (.iload_n 3, 1) := by decide +kernel
theorem d2_65 : decode method_4_code 65 = .ok (.iload 6, 2) := by decide +kernel
theorem d2_67 : decode method_4_code 67 = .ok (.if_icmp .ne 6, 3) := by decide +kernel
theorem d2_70 : decode method_4_code 70 = .ok (.iinc 7 1, 3) := by decide +kernel
theorem d2_73 : decode method_4_code 73 = .ok (.iload_n 1, 1) := by decide +kernel
theorem d2_74 : decode method_4_code 74 = .ok (.iconst 2, 1) := by decide +kernel
theorem d2_75 : decode method_4_code 75 = .ok (.if_icmp .le 13, 3) := by decide +kernel
theorem d2_78 : decode method_4_code 78 = .ok (.iload 4, 2) := by decide +kernel
theorem d2_80 : decode method_4_code 80 = .ok (.iload 6, 2) := by decide +kernel
theorem d2_82 : decode method_4_code 82 = .ok (.if_icmp .ne 6, 3) := by decide +kernel
theorem d2_85 : decode method_4_code 85 = .ok (.iinc 7 1, 3) := by decide +kernel
theorem d2_88 : decode method_4_code 88 = .ok (.iload 7, 2) := by decide +kernel
theorem d2_90 : decode method_4_code 90 = .ok (.iload 5, 2) := by decide +kernel
theorem d2_92 : decode method_4_code 92 = .ok (.iload 6, 2) := by decide +kernel
theorem d2_94 : decode method_4_code 94 = .ok (.invokestatic 7, 3) := by decide +kernel
theorem d2_97 : decode method_4_code 97 = .ok (.if_icmp .gt 7, 3) := by decide +kernel
theorem d2_100 : decode method_4_code 100 = .ok (.iconst 1, 1) := by decide +kernel
theorem d2_101 : decode method_4_code 101 = .ok (.goto 4, 3) := by decide +kernel
theorem d2_104 : decode method_4_code 104 = .ok (.iconst 0, 1) := by decide +kernel
theorem d2_105 : decode method_4_code 105 = .ok (.ireturn, 1) := by decide +kernel
theorem pn2 : plainName "com/example/rollhaus/rollhaus/dice/FacesAmongPinLaw" = true := by first | (simp [plainName, overriddenIn]; done) | decide +kernel
theorem pd2_0 : parseMethodDescriptor "(II)I" = some ⟨[.int, .int], some .int⟩ := by decide +kernel
theorem ef2 (m : MethodId) (p0 : Int32) (p1 : Int32) (p2 : Int32) (p3 : Int32) (p4 : Int32) (p5 : Int32) : entryFrame m #[(.int p0), (.int p1), (.int p2), (.int p3), (.int p4), (.int p5)] 8 = mkF m 0 #[.val (.int p0), .val (.int p1), .val (.int p2), .val (.int p3), .val (.int p4), .val (.int p5), .unset, .unset] [] := by first | (simp [entryFrame, mkF, argsToLocals, Value.category]; done) | rfl
def Q2 (Z : State) (p0 : Int32) (p1 : Int32) (p2 : Int32) (p3 : Int32) (p4 : Int32) (p5 : Int32) (h0 : Heap) (n0 : Nat) (v : Option Value) (h : Heap) (L : List Loc) : Prop := v = some (.int (own_fits p0 p1 p2 p3 p4 p5)) ∧ Fr n0 L ∧ h = h0
set_option maxRecDepth 65536 in
set_option maxHeartbeats 40000000 in
theorem rm2 (l : Launch) (Z : State) (a0 : Array Value) (hw : ∀ d ∈ tables_1, d.before a0 Z = true) (ws : List Jvm.Cond) (p0 : Int32) (p1 : Int32) (p2 : Int32) (p3 : Int32) (p4 : Int32) (p5 : Int32) (h0 : Heap) (n0 : Nat) (Z0 : n0 ≤ h0.size) :
    MetFree l (⟨"com/example/rollhaus/rollhaus/dice/FacesAmongPinLaw", "fits", "(IIIIII)Z"⟩ : MethodName) (head1 (Jvm.Cond.code (⟨"com/example/rollhaus/rollhaus/dice/FacesAmongPinLaw", "fits", "(IIIIII)Z"⟩ : MethodName) method_4_code 8 (some .boolean) :: ws) ({ frames := 1, cells := 0, slots := 0, locals := 20 } : Room)) (fun a U => a = #[(.int p0), (.int p1), (.int p2), (.int p3), (.int p4), (.int p5)] ∧ Z.Warmed39 U.vm ∧ U.heap = h0) (fun _ _ _ _ _ => True) (fun _ U o U' => ∃ v L, o = .returned v ∧ Q2 Z p0 p1 p2 p3 p4 p5 h0 n0 v U'.heap L ∧ FrameEnd U o U' L ({ frames := 1, cells := 0, slots := 0, locals := 20 } : Room).cells ({ frames := 1, cells := 0, slots := 0, locals := 20 } : Room).slots) := by
  refine MetFree.of_bodySF (plainFor_of_name pn2) hisR ?_
  intro p e s m args below meth c s₁ Bd hml0 hP hK
  obtain ⟨rfl, hZ, hh⟩ := hP
  have hx := Bd.exec
  have hby := Bd.bytes
  have hml : c.maxLocals = 8 := hml0
  have hown : s.vm.findClass "com/example/rollhaus/rollhaus/dice/FacesAmongPinLaw" = some m.cls := findClass_of_methodNamed Bd.named
  have hnm := (name_of_methodNamed Bd.named Bd.method).1
  have X0 : Stand p l e ({ frames := 1, cells := 0, slots := 0, locals := 20 } : Room) s m #[(.int p0), (.int p1), (.int p2), (.int p3), (.int p4), (.int p5)] below meth c s₁ [] 0 0 := Stand.of_body Bd
  have e0 : s₁.heap = h0 := by rw [← hh, Bd.state]; rfl
  have N0 := Fr.nil n0
  have K0 : Keep h0 h0 [] := Keep.refl h0 _
  refine own_in ?_
  refine own_go (B := s₁.setTop (mkF m 0 #[.val (.int p0), .val (.int p1), .val (.int p2), .val (.int p3), .val (.int p4), .val (.int p5), .unset, .unset] [])) (fun t k => castTop (ef2 m p0 p1 p2 p3 p4 p5) k) ?_
  refine own_go (B := s₁.setTop (mkF m 2 #[.val (.int p0), .val (.int p1), .val (.int p2), .val (.int p3), .val (.int p4), .val (.int p5), .unset, .unset] [(.int p1), (.int p0)])) (fun t k => ?_) ?_
  · show Steps p.tables e below (s₁.setTop (mkF m 0 #[.val (.int p0), .val (.int p1), .val (.int p2), .val (.int p3), .val (.int p4), .val (.int p5), .unset, .unset] [])) t
    refine XS.iloadN X0.here hx rfl (hb hby d2_0) rfl ?_
    refine XS.iloadN X0.here hx rfl (hb hby d2_1) rfl ?_
    exact k
  by_cases hc1 : p0 < p1
  · skip
    refine own_go (B := s₁.setTop (mkF m 8 #[.val (.int p0), .val (.int p1), .val (.int p2), .val (.int p3), .val (.int p4), .val (.int p5), .unset, .unset] [(.int p0)])) (fun t k => ?_) ?_
    · show Steps p.tables e below (s₁.setTop (mkF m 2 #[.val (.int p0), .val (.int p1), .val (.int p2), .val (.int p3), .val (.int p4), .val (.int p5), .unset, .unset] [(.int p1), (.int p0)])) t
      refine XS.icmpYes X0.here hx rfl (pc0 := 2) (pc' := 7) rfl (hb hby d2_2) rfl (tlt hc1).1 (by decide) (by decide) ?_
      refine XS.iloadN X0.here hx rfl (hb hby d2_7) rfl ?_
      exact k
    refine own_go (B := s₁.setTop (mkF m 26 #[.val (.int p0), .val (.int p1), .val (.int p2), .val (.int p3), .val (.int p4), .val (.int p5), .unset, .unset] [(.int (own_d p0 p2 p3 p4))])) (fun t k => ?_) ?_
    · skip
      show Steps p.tables e below (s₁.setTop (mkF m 8 #[.val (.int p0), .val (.int p1), .val (.int p2), .val (.int p3), .val (.int p4), .val (.int p5), .unset, .unset] [(.int p0)])) t
      by_cases hd2 : p0 = (0 : Int32)
      · refine XS.ifNo X0.here hx rfl (hb hby d2_8) rfl ((if0 _ _).trans (teq hd2).2) ?_
        show Steps p.tables e below (s₁.setTop (mkF m 11 #[.val (.int p0), .val (.int p1), .val (.int p2), .val (.int p3), .val (.int p4), .val (.int p5), .unset, .unset] [])) t
        refine XS.iloadN X0.here hx rfl (hb hby d2_11) rfl ?_
        show Steps p.tables e below (s₁.setTop (mkF m 12 #[.val (.int p0), .val (.int p1), .val (.int p2), .val (.int p3), .val (.int p4), .val (.int p5), .unset, .unset] [(.int p2)])) t
        refine XS.goto X0.here hx rfl (pc0 := 12) (pc' := 26) rfl (hb hby d2_12) (by decide) (by decide) ?_
        show Steps p.tables e below (s₁.setTop (mkF m 26 #[.val (.int p0), .val (.int p1), .val (.int p2), .val (.int p3), .val (.int p4), .val (.int p5), .unset, .unset] [(.int p2)])) t
        exact (congrArg (fun z => Steps p.tables e below (s₁.setTop (mkF m 26 #[.val (.int p0), .val (.int p1), .val (.int p2), .val (.int p3), .val (.int p4), .val (.int p5), .unset, .unset] [(.int z)])) t) (if_pos hd2)).mp k
      · refine XS.ifYes X0.here hx rfl (pc0 := 8) (pc' := 15) rfl (hb hby d2_8) rfl ((if0 _ _).trans (feq hd2).2) (by decide) (by decide) ?_
        show Steps p.tables e below (s₁.setTop (mkF m 15 #[.val (.int p0), .val (.int p1), .val (.int p2), .val (.int p3), .val (.int p4), .val (.int p5), .unset, .unset] [])) t
        refine XS.iloadN X0.here hx rfl (hb hby d2_15) rfl ?_
        show Steps p.tables e below (s₁.setTop (mkF m 16 #[.val (.int p0), .val (.int p1), .val (.int p2), .val (.int p3), .val (.int p4), .val (.int p5), .unset, .unset] [(.int p0)])) t
        refine XS.iconst X0.here hx rfl (hb hby d2_16) ?_
        show Steps p.tables e below (s₁.setTop (mkF m 17 #[.val (.int p0), .val (.int p1), .val (.int p2), .val (.int p3), .val (.int p4), .val (.int p5), .unset, .unset] [(.int (1 : Int32)), (.int p0)])) t
        by_cases hd3 : p0 = (1 : Int32)
        · refine XS.icmpNo X0.here hx rfl (hb hby d2_17) rfl (teq hd3).2 ?_
          show Steps p.tables e below (s₁.setTop (mkF m 20 #[.val (.int p0), .val (.int p1), .val (.int p2), .val (.int p3), .val (.int p4), .val (.int p5), .unset, .unset] [])) t
          refine XS.iloadN X0.here hx rfl (hb hby d2_20) rfl ?_
          show Steps p.tables e below (s₁.setTop (mkF m 21 #[.val (.int p0), .val (.int p1), .val (.int p2), .val (.int p3), .val (.int p4), .val (.int p5), .unset, .unset] [(.int p3)])) t
          refine XS.goto X0.here hx rfl (pc0 := 21) (pc' := 26) rfl (hb hby d2_21) (by decide) (by decide) ?_
          show Steps p.tables e below (s₁.setTop (mkF m 26 #[.val (.int p0), .val (.int p1), .val (.int p2), .val (.int p3), .val (.int p4), .val (.int p5), .unset, .unset] [(.int p3)])) t
          exact (congrArg (fun z => Steps p.tables e below (s₁.setTop (mkF m 26 #[.val (.int p0), .val (.int p1), .val (.int p2), .val (.int p3), .val (.int p4), .val (.int p5), .unset, .unset] [(.int z)])) t) ((if_neg hd2).trans (if_pos hd3))).mp k
        · refine XS.icmpYes X0.here hx rfl (pc0 := 17) (pc' := 24) rfl (hb hby d2_17) rfl (feq hd3).2 (by decide) (by decide) ?_
          show Steps p.tables e below (s₁.setTop (mkF m 24 #[.val (.int p0), .val (.int p1), .val (.int p2), .val (.int p3), .val (.int p4), .val (.int p5), .unset, .unset] [])) t
          refine XS.iload X0.here hx rfl (hb hby d2_24) rfl ?_
          show Steps p.tables e below (s₁.setTop (mkF m 26 #[.val (.int p0), .val (.int p1), .val (.int p2), .val (.int p3), .val (.int p4), .val (.int p5), .unset, .unset] [(.int p4)])) t
          exact (congrArg (fun z => Steps p.tables e below (s₁.setTop (mkF m 26 #[.val (.int p0), .val (.int p1), .val (.int p2), .val (.int p3), .val (.int p4), .val (.int p5), .unset, .unset] [(.int z)])) t) ((if_neg hd2).trans (if_neg hd3))).mp k
    refine own_go (B := s₁.setTop (mkF m 31 #[.val (.int p0), .val (.int p1), .val (.int p2), .val (.int p3), .val (.int p4), .val (.int p5), .val (.int (own_d p0 p2 p3 p4)), .unset] [(.int (1 : Int32)), (.int (own_d p0 p2 p3 p4))])) (fun t k => ?_) ?_
    · show Steps p.tables e below (s₁.setTop (mkF m 26 #[.val (.int p0), .val (.int p1), .val (.int p2), .val (.int p3), .val (.int p4), .val (.int p5), .unset, .unset] [(.int (own_d p0 p2 p3 p4))])) t
      refine XS.istore X0.here hx rfl (hb hby d2_26) rfl (l' := #[.val (.int p0), .val (.int p1), .val (.int p2), .val (.int p3), .val (.int p4), .val (.int p5), .val (.int (own_d p0 p2 p3 p4)), .unset]) rfl ?_
      refine XS.iload X0.here hx rfl (hb hby d2_28) rfl ?_
      refine XS.iconst X0.here hx rfl (hb hby d2_30) ?_
      exact k
    by_cases hc4 : (own_d p0 p2 p3 p4) < (1 : Int32)
    · skip
      refine own_go (B := s₁.setTop (mkF m 42 #[.val (.int p0), .val (.int p1), .val (.int p2), .val (.int p3), .val (.int p4), .val (.int p5), .val (.int (own_d p0 p2 p3 p4)), .unset] [(.int (0 : Int32))])) (fun t k => ?_) ?_
      · show Steps p.tables e below (s₁.setTop (mkF m 31 #[.val (.int p0), .val (.int p1), .val (.int p2), .val (.int p3), .val (.int p4), .val (.int p5), .val (.int (own_d p0 p2 p3 p4)), .unset] [(.int (1 : Int32)), (.int (own_d p0 p2 p3 p4))])) t
        refine XS.icmpYes X0.here hx rfl (pc0 := 31) (pc' := 41) rfl (hb hby d2_31) rfl (tlt hc4).1 (by decide) (by decide) ?_
        refine XS.iconst X0.here hx rfl (hb hby d2_41) ?_
        exact k
      obtain ⟨fs, hr, hrun, hended, hW, hsame⟩ := X0.leave (v := some (.int (0 : Int32))) (fun h => by rw [Bd.returns] at h; cases h)
      refine ⟨_, _, ?_, hrun, hended, _, _, rfl, ?_, ⟨_, rfl⟩, hW, hsame.mono (by decide) (by decide)⟩
      · exact retOut X0 hx (t := .boolean) Bd.returns rfl (Or.inl ⟨rfl, by simp, _, rfl⟩) (hb hby d2_42) hr
      · show Q2 Z p0 p1 p2 p3 p4 p5 h0 n0 _ s₁.heap _
        rw [e0]
        exact ⟨by unfold own_fits; simp only [if_pos hc1, if_pos hc4], N0, rfl⟩
    · skip
      refine own_go (B := s₁.setTop (mkF m 38 #[.val (.int p0), .val (.int p1), .val (.int p2), .val (.int p3), .val (.int p4), .val (.int p5), .val (.int (own_d p0 p2 p3 p4)), .unset] [(.int (6 : Int32)), (.int (own_d p0 p2 p3 p4))])) (fun t k => ?_) ?_
      · show Steps p.tables e below (s₁.setTop (mkF m 31 #[.val (.int p0), .val (.int p1), .val (.int p2), .val (.int p3), .val (.int p4), .val (.int p5), .val (.int (own_d p0 p2 p3 p4)), .unset] [(.int (1 : Int32)), (.int (own_d p0 p2 p3 p4))])) t
        refine XS.icmpNo X0.here hx rfl (hb hby d2_31) rfl (flt hc4).1 ?_
        refine XS.iload X0.here hx rfl (hb hby d2_34) rfl ?_
        refine XS.bipush X0.here hx rfl (hb hby d2_36) ?_
        exact k
      by_cases hc6 : (6 : Int32) < (own_d p0 p2 p3 p4)
      · skip
        refine own_go (B := s₁.setTop (mkF m 42 #[.val (.int p0), .val (.int p1), .val (.int p2), .val (.int p3), .val (.int p4), .val (.int p5), .val (.int (own_d p0 p2 p3 p4)), .unset] [(.int (0 : Int32))])) (fun t k => ?_) ?_
        · show Steps p.tables e below (s₁.setTop (mkF m 38 #[.val (.int p0), .val (.int p1), .val (.int p2), .val (.int p3), .val (.int p4), .val (.int p5), .val (.int (own_d p0 p2 p3 p4)), .unset] [(.int (6 : Int32)), (.int (own_d p0 p2 p3 p4))])) t
          refine XS.icmpNo X0.here hx rfl (hb hby d2_38) rfl (tlt hc6).2.2.2 ?_
          refine XS.iconst X0.here hx rfl (hb hby d2_41) ?_
          exact k
        obtain ⟨fs, hr, hrun, hended, hW, hsame⟩ := X0.leave (v := some (.int (0 : Int32))) (fun h => by rw [Bd.returns] at h; cases h)
        refine ⟨_, _, ?_, hrun, hended, _, _, rfl, ?_, ⟨_, rfl⟩, hW, hsame.mono (by decide) (by decide)⟩
        · exact retOut X0 hx (t := .boolean) Bd.returns rfl (Or.inl ⟨rfl, by simp, _, rfl⟩) (hb hby d2_42) hr
        · show Q2 Z p0 p1 p2 p3 p4 p5 h0 n0 _ s₁.heap _
          rw [e0]
          exact ⟨by unfold own_fits; simp only [if_pos hc1, if_neg hc4, if_pos hc6], N0, rfl⟩
      · skip
        refine own_go (B := s₁.setTop (mkF m 47 #[.val (.int p0), .val (.int p1), .val (.int p2), .val (.int p3), .val (.int p4), .val (.int p5), .val (.int (own_d p0 p2 p3 p4)), .val (.int (0 : Int32))] [(.int p1)])) (fun t k => ?_) ?_
        · show Steps p.tables e below (s₁.setTop (mkF m 38 #[.val (.int p0), .val (.int p1), .val (.int p2), .val (.int p3), .val (.int p4), .val (.int p5), .val (.int (own_d p0 p2 p3 p4)), .unset] [(.int (6 : Int32)), (.int (own_d p0 p2 p3 p4))])) t
          refine XS.icmpYes X0.here hx rfl (pc0 := 38) (pc' := 43) rfl (hb hby d2_38) rfl (flt hc6).2.2.2 (by decide) (by decide) ?_
          refine XS.iconst X0.here hx rfl (hb hby d2_43) ?_
          refine XS.istore X0.here hx rfl (hb hby d2_44) rfl (l' := #[.val (.int p0), .val (.int p1), .val (.int p2), .val (.int p3), .val (.int p4), .val (.int p5), .val (.int (own_d p0 p2 p3 p4)), .val (.int (0 : Int32))]) rfl ?_
          refine XS.iloadN X0.here hx rfl (hb hby d2_46) rfl ?_
          exact k
        refine own_go (B := s₁.setTop (mkF m 59 #[.val (.int p0), .val (.int p1), .val (.int p2), .val (.int p3), .val (.int p4), .val (.int p5), .val (.int (own_d p0 p2 p3 p4)), .val (.int (own_o (0 : Int32) 0 p1 p2 (own_d p0 p2 p3 p4)))] [])) (fun t k => ?_) ?_
        · skip
          show Steps p.tables e below (s₁.setTop (mkF m 47 #[.val (.int p0), .val (.int p1), .val (.int p2), .val (.int p3), .val (.int p4), .val (.int p5), .val (.int (own_d p0 p2 p3 p4)), .val (.int (0 : Int32))] [(.int p1)])) t
          by_cases hd8 : (0 : Int32) < p1
          · refine XS.ifNo X0.here hx rfl (hb hby d2_47) rfl ((if0 _ _).trans (tlt hd8).2.2.2) ?_
            show Steps p.tables e below (s₁.setTop (mkF m 50 #[.val (.int p0), .val (.int p1), .val (.int p2), .val (.int p3), .val (.int p4), .val (.int p5), .val (.int (own_d p0 p2 p3 p4)), .val (.int (0 : Int32))] [])) t
            refine XS.iloadN X0.here hx rfl (hb hby d2_50) rfl ?_
            show Steps p.tables e below (s₁.setTop (mkF m 51 #[.val (.int p0), .val (.int p1), .val (.int p2), .val (.int p3), .val (.int p4), .val (.int p5), .val (.int (own_d p0 p2 p3 p4)), .val (.int (0 : Int32))] [(.int p2)])) t
            refine XS.iload X0.here hx rfl (hb hby d2_51) rfl ?_
            show Steps p.tables e below (s₁.setTop (mkF m 53 #[.val (.int p0), .val (.int p1), .val (.int p2), .val (.int p3), .val (.int p4), .val (.int p5), .val (.int (own_d p0 p2 p3 p4)), .val (.int (0 : Int32))] [(.int (own_d p0 p2 p3 p4)), (.int p2)])) t
            by_cases hd9 : p2 = (own_d p0 p2 p3 p4)
            · refine XS.icmpNo X0.here hx rfl (hb hby d2_53) rfl (teq hd9).2 ?_
              show Steps p.tables e below (s₁.setTop (mkF m 56 #[.val (.int p0), .val (.int p1), .val (.int p2), .val (.int p3), .val (.int p4), .val (.int p5), .val (.int (own_d p0 p2 p3 p4)), .val (.int (0 : Int32))] [])) t
              refine XS.iinc X0.here hx rfl (hb hby d2_56) rfl (l' := #[.val (.int p0), .val (.int p1), .val (.int p2), .val (.int p3), .val (.int p4), .val (.int p5), .val (.int (own_d p0 p2 p3 p4)), .val (.int ((0 : Int32) + (1 : Int32)))]) rfl ?_
              show Steps p.tables e below (s₁.setTop (mkF m 59 #[.val (.int p0), .val (.int p1), .val (.int p2), .val (.int p3), .val (.int p4), .val (.int p5), .val (.int (own_d p0 p2 p3 p4)), .val (.int ((0 : Int32) + (1 : Int32)))] [])) t
              exact (congrArg (fun z => Steps p.tables e below (s₁.setTop (mkF m 59 #[.val (.int p0), .val (.int p1), .val (.int p2), .val (.int p3), .val (.int p4), .val (.int p5), .val (.int (own_d p0 p2 p3 p4)), .val (.int z)] [])) t) ((if_pos hd8).trans (if_pos hd9))).mp k
            · refine XS.icmpYes X0.here hx rfl (pc0 := 53) (pc' := 59) rfl (hb hby d2_53) rfl (feq hd9).2 (by decide) (by decide) ?_
              show Steps p.tables e below (s₁.setTop (mkF m 59 #[.val (.int p0), .val (.int p1), .val (.int p2), .val (.int p3), .val (.int p4), .val (.int p5), .val (.int (own_d p0 p2 p3 p4)), .val (.int (0 : Int32))] [])) t
              exact (congrArg (fun z => Steps p.tables e below (s₁.setTop (mkF m 59 #[.val (.int p0), .val (.int p1), .val (.int p2), .val (.int p3), .val (.int p4), .val (.int p5), .val (.int (own_d p0 p2 p3 p4)), .val (.int z)] [])) t) ((if_pos hd8).trans (if_neg hd9))).mp k
          · refine XS.ifYes X0.here hx rfl (pc0 := 47) (pc' := 59) rfl (hb hby d2_47) rfl ((if0 _ _).trans (flt hd8).2.2.2) (by decide) (by decide) ?_
            show Steps p.tables e below (s₁.setTop (mkF m 59 #[.val (.int p0), .val (.int p1), .val (.int p2), .val (.int p3), .val (.int p4), .val (.int p5), .val (.int (own_d p0 p2 p3 p4)), .val (.int (0 : Int32))] [])) t
            exact (congrArg (fun z => Steps p.tables e below (s₁.setTop (mkF m 59 #[.val (.int p0), .val (.int p1), .val (.int p2), .val (.int p3), .val (.int p4), .val (.int p5), .val (.int (own_d p0 p2 p3 p4)), .val (.int z)] [])) t) (if_neg hd8)).mp k
        refine own_go (B := s₁.setTop (mkF m 61 #[.val (.int p0), .val (.int p1), .val (.int p2), .val (.int p3), .val (.int p4), .val (.int p5), .val (.int (own_d p0 p2 p3 p4)), .val (.int (own_o (0 : Int32) 0 p1 p2 (own_d p0 p2 p3 p4)))] [(.int (1 : Int32)), (.int p1)])) (fun t k => ?_) ?_
        · show Steps p.tables e below (s₁.setTop (mkF m 59 #[.val (.int p0), .val (.int p1), .val (.int p2), .val (.int p3), .val (.int p4), .val (.int p5), .val (.int (own_d p0 p2 p3 p4)), .val (.int (own_o (0 : Int32) 0 p1 p2 (own_d p0 p2 p3 p4)))] [])) t
          refine XS.iloadN X0.here hx rfl (hb hby d2_59) rfl ?_
          refine XS.iconst X0.here hx rfl (hb hby d2_60) ?_
          exact k
        refine own_go (B := s₁.setTop (mkF m 73 #[.val (.int p0), .val (.int p1), .val (.int p2), .val (.int p3), .val (.int p4), .val (.int p5), .val (.int (own_d p0 p2 p3 p4)), .val (.int (own_o (own_o (0 : Int32) 0 p1 p2 (own_d p0 p2 p3 p4)) 1 p1 p3 (own_d p0 p2 p3 p4)))] [])) (fun t k => ?_) ?_
        · skip
          show Steps p.tables e below (s₁.setTop (mkF m 61 #[.val (.int p0), .val (.int p1), .val (.int p2), .val (.int p3), .val (.int p4), .val (.int p5), .val (.int (own_d p0 p2 p3 p4)), .val (.int (own_o (0 : Int32) 0 p1 p2 (own_d p0 p2 p3 p4)))] [(.int (1 : Int32)), (.int p1)])) t
          by_cases hd10 : (1 : Int32) < p1
          · refine XS.icmpNo X0.here hx rfl (hb hby d2_61) rfl (tlt hd10).2.2.2 ?_
            show Steps p.tables e below (s₁.setTop (mkF m 64 #[.val (.int p0), .val (.int p1), .val (.int p2), .val (.int p3), .val (.int p4), .val (.int p5), .val (.int (own_d p0 p2 p3 p4)), .val (.int (own_o (0 : Int32) 0 p1 p2 (own_d p0 p2 p3 p4)))] [])) t
            refine XS.iloadN X0.here hx rfl (hb hby d2_64) rfl ?_
            show Steps p.tables e below (s₁.setTop (mkF m 65 #[.val (.int p0), .val (.int p1), .val (.int p2), .val (.int p3), .val (.int p4), .val (.int p5), .val (.int (own_d p0 p2 p3 p4)), .val (.int (own_o (0 : Int32) 0 p1 p2 (own_d p0 p2 p3 p4)))] [(.int p3)])) t
            refine XS.iload X0.here hx rfl (hb hby d2_65) rfl ?_
            show Steps p.tables e below (s₁.setTop (mkF m 67 #[.val (.int p0), .val (.int p1), .val (.int p2), .val (.int p3), .val (.int p4), .val (.int p5), .val (.int (own_d p0 p2 p3 p4)), .val (.int (own_o (0 : Int32) 0 p1 p2 (own_d p0 p2 p3 p4)))] [(.int (own_d p0 p2 p3 p4)), (.int p3)])) t
            by_cases hd11 : p3 = (own_d p0 p2 p3 p4)
            · refine XS.icmpNo X0.here hx rfl (hb hby d2_67) rfl (teq hd11).2 ?_
              show Steps p.tables e below (s₁.setTop (mkF m 70 #[.val (.int p0), .val (.int p1), .val (.int p2), .val (.int p3), .val (.int p4), .val (.int p5), .val (.int (own_d p0 p2 p3 p4)), .val (.int (own_o (0 : Int32) 0 p1 p2 (own_d p0 p2 p3 p4)))] [])) t
              refine XS.iinc X0.here hx rfl (hb hby d2_70) rfl (l' := #[.val (.int p0), .val (.int p1), .val (.int p2), .val (.int p3), .val (.int p4), .val (.int p5), .val (.int (own_d p0 p2 p3 p4)), .val (.int ((own_o (0 : Int32) 0 p1 p2 (own_d p0 p2 p3 p4)) + (1 : Int32)))]) rfl ?_
              show Steps p.tables e below (s₁.setTop (mkF m 73 #[.val (.int p0), .val (.int p1), .val (.int p2), .val (.int p3), .val (.int p4), .val (.int p5), .val (.int (own_d p0 p2 p3 p4)), .val (.int ((own_o (0 : Int32) 0 p1 p2 (own_d p0 p2 p3 p4)) + (1 : Int32)))] [])) t
              exact (congrArg (fun z => Steps p.tables e below (s₁.setTop (mkF m 73 #[.val (.int p0), .val (.int p1), .val (.int p2), .val (.int p3), .val (.int p4), .val (.int p5), .val (.int (own_d p0 p2 p3 p4)), .val (.int z)] [])) t) ((if_pos hd10).trans (if_pos hd11))).mp k
            · refine XS.icmpYes X0.here hx rfl (pc0 := 67) (pc' := 73) rfl (hb hby d2_67) rfl (feq hd11).2 (by decide) (by decide) ?_
              show Steps p.tables e below (s₁.setTop (mkF m 73 #[.val (.int p0), .val (.int p1), .val (.int p2), .val (.int p3), .val (.int p4), .val (.int p5), .val (.int (own_d p0 p2 p3 p4)), .val (.int (own_o (0 : Int32) 0 p1 p2 (own_d p0 p2 p3 p4)))] [])) t
              exact (congrArg (fun z => Steps p.tables e below (s₁.setTop (mkF m 73 #[.val (.int p0), .val (.int p1), .val (.int p2), .val (.int p3), .val (.int p4), .val (.int p5), .val (.int (own_d p0 p2 p3 p4)), .val (.int z)] [])) t) ((if_pos hd10).trans (if_neg hd11))).mp k
          · refine XS.icmpYes X0.here hx rfl (pc0 := 61) (pc' := 73) rfl (hb hby d2_61) rfl (flt hd10).2.2.2 (by decide) (by decide) ?_
            show Steps p.tables e below (s₁.setTop (mkF m 73 #[.val (.int p0), .val (.int p1), .val (.int p2), .val (.int p3), .val (.int p4), .val (.int p5), .val (.int (own_d p0 p2 p3 p4)), .val (.int (own_o (0 : Int32) 0 p1 p2 (own_d p0 p2 p3 p4)))] [])) t
            exact (congrArg (fun z => Steps p.tables e below (s₁.setTop (mkF m 73 #[.val (.int p0), .val (.int p1), .val (.int p2), .val (.int p3), .val (.int p4), .val (.int p5), .val (.int (own_d p0 p2 p3 p4)), .val (.int z)] [])) t) (if_neg hd10)).mp k
        refine own_go (B := s₁.setTop (mkF m 75 #[.val (.int p0), .val (.int p1), .val (.int p2), .val (.int p3), .val (.int p4), .val (.int p5), .val (.int (own_d p0 p2 p3 p4)), .val (.int (own_o (own_o (0 : Int32) 0 p1 p2 (own_d p0 p2 p3 p4)) 1 p1 p3 (own_d p0 p2 p3 p4)))] [(.int (2 : Int32)), (.int p1)])) (fun t k => ?_) ?_
        · show Steps p.tables e below (s₁.setTop (mkF m 73 #[.val (.int p0), .val (.int p1), .val (.int p2), .val (.int p3), .val (.int p4), .val (.int p5), .val (.int (own_d p0 p2 p3 p4)), .val (.int (own_o (own_o (0 : Int32) 0 p1 p2 (own_d p0 p2 p3 p4)) 1 p1 p3 (own_d p0 p2 p3 p4)))] [])) t
          refine XS.iloadN X0.here hx rfl (hb hby d2_73) rfl ?_
          refine XS.iconst X0.here hx rfl (hb hby d2_74) ?_
          exact k
        refine own_go (B := s₁.setTop (mkF m 88 #[.val (.int p0), .val (.int p1), .val (.int p2), .val (.int p3), .val (.int p4), .val (.int p5), .val (.int (own_d p0 p2 p3 p4)), .val (.int (own_o (own_o (own_o (0 : Int32) 0 p1 p2 (own_d p0 p2 p3 p4)) 1 p1 p3 (own_d p0 p2 p3 p4)) 2 p1 p4 (own_d p0 p2 p3 p4)))] [])) (fun t k => ?_) ?_
        · skip
          show Steps p.tables e below (s₁.setTop (mkF m 75 #[.val (.int p0), .val (.int p1), .val (.int p2), .val (.int p3), .val (.int p4), .val (.int p5), .val (.int (own_d p0 p2 p3 p4)), .val (.int (own_o (own_o (0 : Int32) 0 p1 p2 (own_d p0 p2 p3 p4)) 1 p1 p3 (own_d p0 p2 p3 p4)))] [(.int (2 : Int32)), (.int p1)])) t
          by_cases hd12 : (2 : Int32) < p1
          · refine XS.icmpNo X0.here hx rfl (hb hby d2_75) rfl (tlt hd12).2.2.2 ?_
            show Steps p.tables e below (s₁.setTop (mkF m 78 #[.val (.int p0), .val (.int p1), .val (.int p2), .val (.int p3), .val (.int p4), .val (.int p5), .val (.int (own_d p0 p2 p3 p4)), .val (.int (own_o (own_o (0 : Int32) 0 p1 p2 (own_d p0 p2 p3 p4)) 1 p1 p3 (own_d p0 p2 p3 p4)))] [])) t
            refine XS.iload X0.here hx rfl (hb hby d2_78) rfl ?_
            show Steps p.tables e below (s₁.setTop (mkF m 80 #[.val (.int p0), .val (.int p1), .val (.int p2), .val (.int p3), .val (.int p4), .val (.int p5), .val (.int (own_d p0 p2 p3 p4)), .val (.int (own_o (own_o (0 : Int32) 0 p1 p2 (own_d p0 p2 p3 p4)) 1 p1 p3 (own_d p0 p2 p3 p4)))] [(.int p4)])) t
            refine XS.iload X0.here hx rfl (hb hby d2_80) rfl ?_
            show Steps p.tables e below (s₁.setTop (mkF m 82 #[.val (.int p0), .val (.int p1), .val (.int p2), .val (.int p3), .val (.int p4), .val (.int p5), .val (.int (own_d p0 p2 p3 p4)), .val (.int (own_o (own_o (0 : Int32) 0 p1 p2 (own_d p0 p2 p3 p4)) 1 p1 p3 (own_d p0 p2 p3 p4)))] [(.int (own_d p0 p2 p3 p4)), (.int p4)])) t
            by_cases hd13 : p4 = (own_d p0 p2 p3 p4)
            · refine XS.icmpNo X0.here hx rfl (hb hby d2_82) rfl (teq hd13).2 ?_
              show Steps p.tables e below (s₁.setTop (mkF m 85 #[.val (.int p0), .val (.int p1), .val (.int p2), .val (.int p3), .val (.int p4), .val (.int p5), .val (.int (own_d p0 p2 p3 p4)), .val (.int (own_o (own_o (0 : Int32) 0 p1 p2 (own_d p0 p2 p3 p4)) 1 p1 p3 (own_d p0 p2 p3 p4)))] [])) t
              refine XS.iinc X0.here hx rfl (hb hby d2_85) rfl (l' := #[.val (.int p0), .val (.int p1), .val (.int p2), .val (.int p3), .val (.int p4), .val (.int p5), .val (.int (own_d p0 p2 p3 p4)), .val (.int ((own_o (own_o (0 : Int32) 0 p1 p2 (own_d p0 p2 p3 p4)) 1 p1 p3 (own_d p0 p2 p3 p4)) + (1 : Int32)))]) rfl ?_
              show Steps p.tables e below (s₁.setTop (mkF m 88 #[.val (.int p0), .val (.int p1), .val (.int p2), .val (.int p3), .val (.int p4), .val (.int p5), .val (.int (own_d p0 p2 p3 p4)), .val (.int ((own_o (own_o (0 : Int32) 0 p1 p2 (own_d p0 p2 p3 p4)) 1 p1 p3 (own_d p0 p2 p3 p4)) + (1 : Int32)))] [])) t
              exact (congrArg (fun z => Steps p.tables e below (s₁.setTop (mkF m 88 #[.val (.int p0), .val (.int p1), .val (.int p2), .val (.int p3), .val (.int p4), .val (.int p5), .val (.int (own_d p0 p2 p3 p4)), .val (.int z)] [])) t) ((if_pos hd12).trans (if_pos hd13))).mp k
            · refine XS.icmpYes X0.here hx rfl (pc0 := 82) (pc' := 88) rfl (hb hby d2_82) rfl (feq hd13).2 (by decide) (by decide) ?_
              show Steps p.tables e below (s₁.setTop (mkF m 88 #[.val (.int p0), .val (.int p1), .val (.int p2), .val (.int p3), .val (.int p4), .val (.int p5), .val (.int (own_d p0 p2 p3 p4)), .val (.int (own_o (own_o (0 : Int32) 0 p1 p2 (own_d p0 p2 p3 p4)) 1 p1 p3 (own_d p0 p2 p3 p4)))] [])) t
              exact (congrArg (fun z => Steps p.tables e below (s₁.setTop (mkF m 88 #[.val (.int p0), .val (.int p1), .val (.int p2), .val (.int p3), .val (.int p4), .val (.int p5), .val (.int (own_d p0 p2 p3 p4)), .val (.int z)] [])) t) ((if_pos hd12).trans (if_neg hd13))).mp k
          · refine XS.icmpYes X0.here hx rfl (pc0 := 75) (pc' := 88) rfl (hb hby d2_75) rfl (flt hd12).2.2.2 (by decide) (by decide) ?_
            show Steps p.tables e below (s₁.setTop (mkF m 88 #[.val (.int p0), .val (.int p1), .val (.int p2), .val (.int p3), .val (.int p4), .val (.int p5), .val (.int (own_d p0 p2 p3 p4)), .val (.int (own_o (own_o (0 : Int32) 0 p1 p2 (own_d p0 p2 p3 p4)) 1 p1 p3 (own_d p0 p2 p3 p4)))] [])) t
            exact (congrArg (fun z => Steps p.tables e below (s₁.setTop (mkF m 88 #[.val (.int p0), .val (.int p1), .val (.int p2), .val (.int p3), .val (.int p4), .val (.int p5), .val (.int (own_d p0 p2 p3 p4)), .val (.int z)] [])) t) (if_neg hd12)).mp k
        refine own_go (B := s₁.setTop (mkF m 94 #[.val (.int p0), .val (.int p1), .val (.int p2), .val (.int p3), .val (.int p4), .val (.int p5), .val (.int (own_d p0 p2 p3 p4)), .val (.int (own_o (own_o (own_o (0 : Int32) 0 p1 p2 (own_d p0 p2 p3 p4)) 1 p1 p3 (own_d p0 p2 p3 p4)) 2 p1 p4 (own_d p0 p2 p3 p4)))] [(.int (own_d p0 p2 p3 p4)), (.int p5), (.int (own_o (own_o (own_o (0 : Int32) 0 p1 p2 (own_d p0 p2 p3 p4)) 1 p1 p3 (own_d p0 p2 p3 p4)) 2 p1 p4 (own_d p0 p2 p3 p4)))])) (fun t k => ?_) ?_
        · show Steps p.tables e below (s₁.setTop (mkF m 88 #[.val (.int p0), .val (.int p1), .val (.int p2), .val (.int p3), .val (.int p4), .val (.int p5), .val (.int (own_d p0 p2 p3 p4)), .val (.int (own_o (own_o (own_o (0 : Int32) 0 p1 p2 (own_d p0 p2 p3 p4)) 1 p1 p3 (own_d p0 p2 p3 p4)) 2 p1 p4 (own_d p0 p2 p3 p4)))] [])) t
          refine XS.iload X0.here hx rfl (hb hby d2_88) rfl ?_
          refine XS.iload X0.here hx rfl (hb hby d2_90) rfl ?_
          refine XS.iload X0.here hx rfl (hb hby d2_92) rfl ?_
          exact k
        obtain ⟨_, _, ⟨T14, L14, k14, n14⟩, -, X14, ⟨Lc14, hQ14, l14, y14, z14⟩, st14⟩ := Jvm.LawKit.callS X0 hx (y := (⟨"com/example/rollhaus/rollhaus/dice/FacesAmongPinLaw", "cnt", "(II)I"⟩ : MethodName)) hown (mvT hZ (hw _ (List.mem_of_getElem? (i := 1) rfl))) (mvT hZ (hw _ (List.mem_of_getElem? (i := 2) rfl))) (mvT hZ (hw _ (List.mem_of_getElem? (i := 3) rfl))) (mvT hZ (hw _ (List.mem_of_getElem? (i := 4) rfl))) (by decide) (backOf (W := 1) (rm1 l Z a0 hw [] p5 (own_d p0 p2 p3 p4)  h0 n0 Z0 ) hZ (hw _ (List.mem_of_getElem? (i := 4) rfl)) (hw _ (List.mem_of_getElem? (i := 3) rfl)) (by decide) (by decide)) (g := (mkF m 94 #[.val (.int p0), .val (.int p1), .val (.int p2), .val (.int p3), .val (.int p4), .val (.int p5), .val (.int (own_d p0 p2 p3 p4)), .val (.int (own_o (own_o (own_o (0 : Int32) 0 p1 p2 (own_d p0 p2 p3 p4)) 1 p1 p3 (own_d p0 p2 p3 p4)) 2 p1 p4 (own_d p0 p2 p3 p4)))] [(.int (own_d p0 p2 p3 p4)), (.int p5), (.int (own_o (own_o (own_o (0 : Int32) 0 p1 p2 (own_d p0 p2 p3 p4)) 1 p1 p3 (own_d p0 p2 p3 p4)) 2 p1 p4 (own_d p0 p2 p3 p4)))])) rfl (by rw [hml]; rfl) (argsL := [(.int p5), (.int (own_d p0 p2 p3 p4))]) (rest := [(.int (own_o (own_o (own_o (0 : Int32) 0 p1 p2 (own_d p0 p2 p3 p4)) 1 p1 p3 (own_d p0 p2 p3 p4)) 2 p1 p4 (own_d p0 p2 p3 p4)))]) (lenOf pd2_0 rfl) rfl (by show 2 * 0 + _ ≤ _; exact Nat.le_of_eq rfl) (hb hby d2_94) (fun _ _ => ⟨rfl, e0, (by decide : 0 + 0 ≤ _), (by decide : 0 + 0 ≤ _)⟩)
        dsimp only [Pt.U, Pt.locs, Pt.cells, Pt.slots] at X14 l14 y14 z14 st14 hQ14
        subst y14 z14
        have X14 : Stand p l e ({ frames := 1, cells := 0, slots := 0, locals := 20 } : Room) s m #[(.int p0), (.int p1), (.int p2), (.int p3), (.int p4), (.int p5)] below meth c T14 _ 0 0 := X14
        obtain ⟨rfl, N14q, e14⟩ := hQ14
        have N14 : Fr n0 L14 := by rw [l14]; exact Fr.app N0 N14q
        refine own_go (st14) ?_
        show own_Fin p.tables e below (T14.setTop (mkF m 97 #[.val (.int p0), .val (.int p1), .val (.int p2), .val (.int p3), .val (.int p4), .val (.int p5), .val (.int (own_d p0 p2 p3 p4)), .val (.int (own_o (own_o (own_o (0 : Int32) 0 p1 p2 (own_d p0 p2 p3 p4)) 1 p1 p3 (own_d p0 p2 p3 p4)) 2 p1 p4 (own_d p0 p2 p3 p4)))] [(.int (own_cnt p5 (own_d p0 p2 p3 p4))), (.int (own_o (own_o (own_o (0 : Int32) 0 p1 p2 (own_d p0 p2 p3 p4)) 1 p1 p3 (own_d p0 p2 p3 p4)) 2 p1 p4 (own_d p0 p2 p3 p4)))])) _
        by_cases hc15 : (own_cnt p5 (own_d p0 p2 p3 p4)) < (own_o (own_o (own_o (0 : Int32) 0 p1 p2 (own_d p0 p2 p3 p4)) 1 p1 p3 (own_d p0 p2 p3 p4)) 2 p1 p4 (own_d p0 p2 p3 p4))
        · skip
          refine own_go (B := T14.setTop (mkF m 105 #[.val (.int p0), .val (.int p1), .val (.int p2), .val (.int p3), .val (.int p4), .val (.int p5), .val (.int (own_d p0 p2 p3 p4)), .val (.int (own_o (own_o (own_o (0 : Int32) 0 p1 p2 (own_d p0 p2 p3 p4)) 1 p1 p3 (own_d p0 p2 p3 p4)) 2 p1 p4 (own_d p0 p2 p3 p4)))] [(.int (0 : Int32))])) (fun t k => ?_) ?_
          · show Steps p.tables e below (T14.setTop (mkF m 97 #[.val (.int p0), .val (.int p1), .val (.int p2), .val (.int p3), .val (.int p4), .val (.int p5), .val (.int (own_d p0 p2 p3 p4)), .val (.int (own_o (own_o (own_o (0 : Int32) 0 p1 p2 (own_d p0 p2 p3 p4)) 1 p1 p3 (own_d p0 p2 p3 p4)) 2 p1 p4 (own_d p0 p2 p3 p4)))] [(.int (own_cnt p5 (own_d p0 p2 p3 p4))), (.int (own_o (own_o (own_o (0 : Int32) 0 p1 p2 (own_d p0 p2 p3 p4)) 1 p1 p3 (own_d p0 p2 p3 p4)) 2 p1 p4 (own_d p0 p2 p3 p4)))])) t
            refine XS.icmpYes X14.here hx rfl (pc0 := 97) (pc' := 104) rfl (hb hby d2_97) rfl (tlt hc15).2.2.1 (by decide) (by decide) ?_
            refine XS.iconst X14.here hx rfl (hb hby d2_104) ?_
            exact k
          obtain ⟨fs, hr, hrun, hended, hW, hsame⟩ := X14.leave (v := some (.int (0 : Int32))) (fun h => by rw [Bd.returns] at h; cases h)
          refine ⟨_, _, ?_, hrun, hended, _, _, rfl, ?_, ⟨_, rfl⟩, hW, hsame.mono (by decide) (by decide)⟩
          · exact retOut X14 hx (t := .boolean) Bd.returns rfl (Or.inl ⟨rfl, by simp, _, rfl⟩) (hb hby d2_105) hr
          · show Q2 Z p0 p1 p2 p3 p4 p5 h0 n0 _ T14.heap _
            rw [e14]
            exact ⟨by unfold own_fits; simp only [if_pos hc1, if_neg hc4, if_neg hc6, if_pos hc15], N14, rfl⟩
        · skip
          refine own_go (B := T14.setTop (mkF m 105 #[.val (.int p0), .val (.int p1), .val (.int p2), .val (.int p3), .val (.int p4), .val (.int p5), .val (.int (own_d p0 p2 p3 p4)), .val (.int (own_o (own_o (own_o (0 : Int32) 0 p1 p2 (own_d p0 p2 p3 p4)) 1 p1 p3 (own_d p0 p2 p3 p4)) 2 p1 p4 (own_d p0 p2 p3 p4)))] [(.int (1 : Int32))])) (fun t k => ?_) ?_
          · show Steps p.tables e below (T14.setTop (mkF m 97 #[.val (.int p0), .val (.int p1), .val (.int p2), .val (.int p3), .val (.int p4), .val (.int p5), .val (.int (own_d p0 p2 p3 p4)), .val (.int (own_o (own_o (own_o (0 : Int32) 0 p1 p2 (own_d p0 p2 p3 p4)) 1 p1 p3 (own_d p0 p2 p3 p4)) 2 p1 p4 (own_d p0 p2 p3 p4)))] [(.int (own_cnt p5 (own_d p0 p2 p3 p4))), (.int (own_o (own_o (own_o (0 : Int32) 0 p1 p2 (own_d p0 p2 p3 p4)) 1 p1 p3 (own_d p0 p2 p3 p4)) 2 p1 p4 (own_d p0 p2 p3 p4)))])) t
            refine XS.icmpNo X14.here hx rfl (hb hby d2_97) rfl (flt hc15).2.2.1 ?_
            refine XS.iconst X14.here hx rfl (hb hby d2_100) ?_
            refine XS.goto X14.here hx rfl (pc0 := 101) (pc' := 105) rfl (hb hby d2_101) (by decide) (by decide) ?_
            exact k
          obtain ⟨fs, hr, hrun, hended, hW, hsame⟩ := X14.leave (v := some (.int (1 : Int32))) (fun h => by rw [Bd.returns] at h; cases h)
          refine ⟨_, _, ?_, hrun, hended, _, _, rfl, ?_, ⟨_, rfl⟩, hW, hsame.mono (by decide) (by decide)⟩
          · exact retOut X14 hx (t := .boolean) Bd.returns rfl (Or.inl ⟨rfl, by simp, _, rfl⟩) (hb hby d2_105) hr
          · show Q2 Z p0 p1 p2 p3 p4 p5 h0 n0 _ T14.heap _
            rw [e14]
            exact ⟨by unfold own_fits; simp only [if_pos hc1, if_neg hc4, if_neg hc6, if_neg hc15], N14, rfl⟩
  · skip
    refine own_go (B := s₁.setTop (mkF m 6 #[.val (.int p0), .val (.int p1), .val (.int p2), .val (.int p3), .val (.int p4), .val (.int p5), .unset, .unset] [(.int (1 : Int32))])) (fun t k => ?_) ?_
    · show Steps p.tables e below (s₁.setTop (mkF m 2 #[.val (.int p0), .val (.int p1), .val (.int p2), .val (.int p3), .val (.int p4), .val (.int p5), .unset, .unset] [(.int p1), (.int p0)])) t
      refine XS.icmpNo X0.here hx rfl (hb hby d2_2) rfl (flt hc1).1 ?_
      refine XS.iconst X0.here hx rfl (hb hby d2_5) ?_
      exact k
    obtain ⟨fs, hr, hrun, hended, hW, hsame⟩ := X0.leave (v := some (.int (1 : Int32))) (fun h => by rw [Bd.returns] at h; cases h)
    refine ⟨_, _, ?_, hrun, hended, _, _, rfl, ?_, ⟨_, rfl⟩, hW, hsame.mono (by decide) (by decide)⟩
    · exact retOut X0 hx (t := .boolean) Bd.returns rfl (Or.inl ⟨rfl, by simp, _, rfl⟩) (hb hby d2_6) hr
    · show Q2 Z p0 p1 p2 p3 p4 p5 h0 n0 _ s₁.heap _
      rw [e0]
      exact ⟨by unfold own_fits; simp only [if_neg hc1], N0, rfl⟩
theorem d3_0 : decode prog_26_method_4_code 0 = .ok (.aload_n 1, 1) := by decide +kernel
theorem d3_1 : decode prog_26_method_4_code 1 = .ok (.invokevirtual 24, 3) := by decide +kernel
theorem d3_4 : decode prog_26_method_4_code 4 = .ok (.checkcast 25, 3) := by decide +kernel
theorem d3_7 : decode prog_26_method_4_code 7 = .ok (.astore_n 2, 1) := by decide +kernel
theorem d3_8 : decode prog_26_method_4_code 8 = .ok (.aload_n 0, 1) := by decide +kernel
theorem d3_9 : decode prog_26_method_4_code 9 = .ok (.astore_n 3, 1) := by decide +kernel
theorem d3_10 : decode prog_26_method_4_code 10 = .ok (.aload_n 3, 1) := by decide +kernel
theorem d3_11 : decode prog_26_method_4_code 11 = .ok (.arraylength, 1) := by decide +kernel
theorem d3_12 : decode prog_26_method_4_code 12 = .ok (.istore 4, 2) := by decide +kernel
theorem d3_14 : decode prog_26_method_4_code 14 = .ok (.iconst 0, 1) := by decide +kernel
theorem d3_15 : decode prog_26_method_4_code 15 = .ok (.istore 5, 2) := by decide +kernel
theorem d3_17 : decode prog_26_method_4_code 17 = .ok (.iload 5, 2) := by decide +kernel
theorem d3_19 : decode prog_26_method_4_code 19 = .ok (.iload 4, 2) := by decide +kernel
theorem d3_21 : decode prog_26_method_4_code 21 = .ok (.if_icmp .ge 45, 3) := by decide +kernel
theorem d3_24 : decode prog_26_method_4_code 24 = .ok (.aload_n 3, 1) := by decide +kernel
theorem d3_25 : decode prog_26_method_4_code 25 = .ok (.iload 5, 2) := by decide +kernel
theorem d3_27 : decode prog_26_method_4_code 27 = .ok (.iaload, 1) := by decide +kernel
theorem d3_28 : decode prog_26_method_4_code 28 = .ok (.istore 6, 2) := by decide +kernel
theorem d3_30 : decode prog_26_method_4_code 30 = .ok (.iload 6, 2) := by decide +kernel
theorem d3_32 : decode prog_26_method_4_code 32 = .ok (.iconst 1, 1) := by decide +kernel
theorem d3_33 : decode prog_26_method_4_code 33 = .ok (.if_icmp .lt 17, 3) := by decide +kernel
theorem d3_36 : decode prog_26_method_4_code 36 = .ok (.iload 6, 2) := by decide +kernel
theorem d3_38 : decode prog_26_method_4_code 38 = .ok (.bipush 6, 2) := by decide +kernel
theorem d3_40 : decode prog_26_method_4_code 40 = .ok (.if_icmp .gt 10, 3) := by decide +kernel
theorem d3_43 : decode prog_26_method_4_code 43 = .ok (.aload_n 2, 1) := by decide +kernel
theorem d3_44 : decode prog_26_method_4_code 44 = .ok (.iload 6, 2) := by decide +kernel
theorem d3_46 : decode prog_26_method_4_code 46 = .ok (.iaload, 1) := by decide +kernel
theorem d3_47 : decode prog_26_method_4_code 47 = .ok (.ifCond .ne 5, 3) := by decide +kernel
theorem d3_50 : decode prog_26_method_4_code 50 = .ok (.iconst 0, 1) := by decide +kernel
theorem d3_51 : decode prog_26_method_4_code 51 = .ok (.ireturn, 1) := by decide +kernel
theorem d3_52 : decode prog_26_method_4_code 52 = .ok (.aload_n 2, 1) := by decide +kernel
theorem d3_53 : decode prog_26_method_4_code 53 = .ok (.iload 6, 2) := by decide +kernel
theorem d3_55 : decode prog_26_method_4_code 55 = .ok (.dup2, 1) := by decide +kernel
theorem d3_56 : decode prog_26_method_4_code 56 = .ok (.iaload, 1) := by decide +kernel
theorem d3_57 : decode prog_26_method_4_code 57 = .ok (.iconst 1, 1) := by decide +kernel
theorem d3_58 : decode prog_26_method_4_code 58 = .ok (.isub, 1) := by decide +kernel
theorem d3_59 : decode prog_26_method_4_code 59 = .ok (.iastore, 1) := by decide +kernel
theorem d3_60 : decode prog_26_method_4_code 60 = .ok (.iinc 5 1, 3) := by decide +kernel
theorem d3_63 : decode prog_26_method_4_code 63 = .ok (.goto (-46), 3) := by decide +kernel
theorem d3_66 : decode prog_26_method_4_code 66 = .ok (.iconst 1, 1) := by decide +kernel
theorem d3_67 : decode prog_26_method_4_code 67 = .ok (.ireturn, 1) := by decide +kernel
theorem pn3 : plainName "com/example/rollhaus/rollhaus/dice/Faces" = true := by first | (simp [plainName, overriddenIn]; done) | decide +kernel
theorem ef3 (m : MethodId) (r0 : Addr) (r1 : Addr) : entryFrame m #[(.ref r0), (.ref r1)] 7 = mkF m 0 #[.val (.ref r0), .val (.ref r1), .unset, .unset, .unset, .unset, .unset] [] := by first | (simp [entryFrame, mkF, argsToLocals, Value.category]; done) | rfl
def Q3 (Z : State) (r0 : Addr) (r1 : Addr) (kc : ClassId) (kd : ClassId) (nn : Nat) (cs : List Int32) (ls0 : List Int32) (h0 : Heap) (n0 : Nat) (v : Option Value) (h : Heap) (L : List Loc) : Prop := v = some (.int (own_am cs ls0)) ∧ Fr n0 L ∧ Keep h0 h []
set_option maxRecDepth 65536 in
set_option maxHeartbeats 40000000 in
theorem rm3 (l : Launch) (Z : State) (a0 : Array Value) (hw : ∀ d ∈ tables_1, d.before a0 Z = true) (ws : List Jvm.Cond) (r0 : Addr) (r1 : Addr) (kc : ClassId) (kd : ClassId) (nn : Nat) (cs : List Int32) (ls0 : List Int32) (h0 : Heap) (n0 : Nat) (Z0 : n0 ≤ h0.size) (V0 : Arv Z h0 r0 kc .int (own_I nn) (cs.map Value.int) (.int (0 : Int32))) (V1 : Arv Z h0 r1 kd .int (7 : Int32) (ls0.map Value.int) (.int (0 : Int32))) (E1 : Exa Z h0 r1 "[I") (hcs : cs.length = nn) (hnn : nn < 90) (hls : ls0.length = 7) :
    MetFree l (⟨"com/example/rollhaus/rollhaus/dice/Faces", "among", "([I[I)Z"⟩ : MethodName) (head1 (Jvm.Cond.code (⟨"com/example/rollhaus/rollhaus/dice/Faces", "among", "([I[I)Z"⟩ : MethodName) prog_26_method_4_code 7 (some .boolean) :: ws) ({ frames := 1, cells := 1, slots := 7, locals := 20 } : Room)) (fun a U => a = #[(.ref r0), (.ref r1)] ∧ Z.Warmed39 U.vm ∧ U.heap = h0) (fun _ _ _ _ _ => True) (fun _ U o U' => ∃ v L, o = .returned v ∧ Q3 Z r0 r1 kc kd nn cs ls0 h0 n0 v U'.heap L ∧ FrameEnd U o U' L ({ frames := 1, cells := 1, slots := 7, locals := 20 } : Room).cells ({ frames := 1, cells := 1, slots := 7, locals := 20 } : Room).slots) := by
  refine MetFree.of_bodySF (plainFor_of_name pn3) hisR ?_
  intro p e s m args below meth c s₁ Bd hml0 hP hK
  obtain ⟨rfl, hZ, hh⟩ := hP
  have hx := Bd.exec
  have hby := Bd.bytes
  have hml : c.maxLocals = 7 := hml0
  have hown : s.vm.findClass "com/example/rollhaus/rollhaus/dice/Faces" = some m.cls := findClass_of_methodNamed Bd.named
  have hnm := (name_of_methodNamed Bd.named Bd.method).1
  have X0 : Stand p l e ({ frames := 1, cells := 1, slots := 7, locals := 20 } : Room) s m #[(.ref r0), (.ref r1)] below meth c s₁ [] 0 0 := Stand.of_body Bd
  have e0 : s₁.heap = h0 := by rw [← hh, Bd.state]; rfl
  have N0 := Fr.nil n0
  have K0 : Keep h0 h0 [] := Keep.refl h0 _
  refine own_in ?_
  refine own_go (B := s₁.setTop (mkF m 0 #[.val (.ref r0), .val (.ref r1), .unset, .unset, .unset, .unset, .unset] [])) (fun t k => castTop (ef3 m r0 r1) k) ?_
  refine own_go (B := s₁.setTop (mkF m 1 #[.val (.ref r0), .val (.ref r1), .unset, .unset, .unset, .unset, .unset] [(.ref r1)])) (fun t k => ?_) ?_
  · show Steps p.tables e below (s₁.setTop (mkF m 0 #[.val (.ref r0), .val (.ref r1), .unset, .unset, .unset, .unset, .unset] [])) t
    refine XS.aloadN X0.here hx rfl (hb hby d3_0) rfl rfl ?_
    exact k
  obtain ⟨T1, h1, X1, e1, E1, V_b1, EA1, st1⟩ := cloneH X0 hx hZ hown (hw _ (List.mem_of_getElem? (i := 9) rfl)) (hw _ (List.mem_of_getElem? (i := 10) rfl)) (hw _ (List.mem_of_getElem? (i := 14) rfl)) (hw _ (List.mem_of_getElem? (i := 12) rfl)) (hw _ (List.mem_of_getElem? (i := 13) rfl)) (hw _ (List.mem_of_getElem? (i := 15) rfl)) e0 V1.arh E1 (g := (mkF m 1 #[.val (.ref r0), .val (.ref r1), .unset, .unset, .unset, .unset, .unset] [(.ref r1)])) rfl (by rw [hml]; rfl) rfl (hb hby d3_1) (by decide) (W := 0) (cap := 7) (by show 2 * 0 + _ ≤ _; exact Nat.le_of_eq rfl) (by decide) (by decide) (by decide) (by decide)
  obtain ⟨b1, g1⟩ : ∃ z, z = h0.size := ⟨_, rfl⟩
  rw [← g1] at V_b1 EA1 st1
  have g_b1 : n0 ≤ b1 := by rw [g1]; exact Z0
  have sz_b1 : h0.size ≤ b1 := by rw [g1]; exact K0.1
  have ne2 : r0 ≠ b1 := Nat.ne_of_lt (by rw [g1]; exact V0.lt)
  have ne3 : r1 ≠ b1 := Nat.ne_of_lt (by rw [g1]; exact V1.lt)
  have K1 : Keep h0 h1 [] := K0.ext E1
  have X1 : Stand p l e ({ frames := 1, cells := 1, slots := 7, locals := 20 } : Room) s m #[(.ref r0), (.ref r1)] below meth c T1 _ 1 7 := X1
  have V1 : Arv Z h1 b1 kd .int (7 : Int32) (ls0.map Value.int) (.int (0 : Int32)) := V_b1
  refine own_go st1 ?_
  show own_Fin p.tables e below (T1.setTop (mkF m 4 #[.val (.ref r0), .val (.ref r1), .unset, .unset, .unset, .unset, .unset] [(.ref b1)])) _
  obtain ⟨T4, X4, e4, st4⟩ := castY X1 hx hZ hown (hw _ (List.mem_of_getElem? (i := 16) rfl)) e1 (Ins.self EA1) (g := (mkF m 4 #[.val (.ref r0), .val (.ref r1), .unset, .unset, .unset, .unset, .unset] [(.ref b1)])) rfl rfl (hb hby d3_4)
  refine own_go st4 ?_
  show own_Fin p.tables e below (T4.setTop (mkF m 7 #[.val (.ref r0), .val (.ref r1), .unset, .unset, .unset, .unset, .unset] [(.ref b1)])) _
  refine own_go (B := T4.setTop (mkF m 11 #[.val (.ref r0), .val (.ref r1), .val (.ref b1), .val (.ref r0), .unset, .unset, .unset] [(.ref r0)])) (fun t k => ?_) ?_
  · show Steps p.tables e below (T4.setTop (mkF m 7 #[.val (.ref r0), .val (.ref r1), .unset, .unset, .unset, .unset, .unset] [(.ref b1)])) t
    refine XS.astoreN X4.here hx rfl (hb hby d3_7) rfl rfl (l' := #[.val (.ref r0), .val (.ref r1), .val (.ref b1), .unset, .unset, .unset, .unset]) rfl ?_
    refine XS.aloadN X4.here hx rfl (hb hby d3_8) rfl rfl ?_
    refine XS.astoreN X4.here hx rfl (hb hby d3_9) rfl rfl (l' := #[.val (.ref r0), .val (.ref r1), .val (.ref b1), .val (.ref r0), .unset, .unset, .unset]) rfl ?_
    refine XS.aloadN X4.here hx rfl (hb hby d3_10) rfl rfl ?_
    exact k
  have f6 := (V0.ext E1)
  obtain ⟨cl5, Ar5, -, S5, M5, -, -⟩ := id f6
  refine own_go (B := T4.setTop (mkF m 12 #[.val (.ref r0), .val (.ref r1), .val (.ref b1), .val (.ref r0), .unset, .unset, .unset] [(.int (own_I nn))])) (fun t k => ?_) ?_
  · refine X4.arraylength hx (by rw [e4]; exact Ar5.1) (State.isArrayOf_alike hZ.alike Ar5.2.1) (g := (mkF m 11 #[.val (.ref r0), .val (.ref r1), .val (.ref b1), .val (.ref r0), .unset, .unset, .unset] [(.ref r0)])) rfl rfl (hb hby d3_11) _ ?_
    rw [len_of S5 M5]
    exact k
  refine own_go (B := T4.setTop (mkF m 17 #[.val (.ref r0), .val (.ref r1), .val (.ref b1), .val (.ref r0), .val (.int (own_I nn)), .val (.int (0 : Int32)), .unset] [])) (fun t k => ?_) ?_
  · show Steps p.tables e below (T4.setTop (mkF m 12 #[.val (.ref r0), .val (.ref r1), .val (.ref b1), .val (.ref r0), .unset, .unset, .unset] [(.int (own_I nn))])) t
    refine XS.istore X4.here hx rfl (hb hby d3_12) rfl (l' := #[.val (.ref r0), .val (.ref r1), .val (.ref b1), .val (.ref r0), .val (.int (own_I nn)), .unset, .unset]) rfl ?_
    refine XS.iconst X4.here hx rfl (hb hby d3_14) ?_
    refine XS.istore X4.here hx rfl (hb hby d3_15) rfl (l' := #[.val (.ref r0), .val (.ref r1), .val (.ref b1), .val (.ref r0), .val (.int (own_I nn)), .val (.int (0 : Int32)), .unset]) rfl ?_
    exact k
  have loop : ∀ (ds ls : List Int32) (i : Nat) (T : State) (hh : Heap) (locs : List Loc) (sl : Slot) (hs : One sl) (X : Stand p l e ({ frames := 1, cells := 1, slots := 7, locals := 20 } : Room) s m #[(.ref r0), (.ref r1)] below meth c T locs 1 7) (eT : T.heap = hh) (N : Fr n0 locs) (K : Keep h0 hh []) (V : Arv Z hh b1 kd .int (7 : Int32) (ls.map Value.int) (.int (0 : Int32))) (hl : ls.length = 7) (hi : i + ds.length = nn) (hd : ∀ j, j < ds.length → cs.getD (i + j) 0 = ds.getD j 0) (ha : own_am ds ls = own_am cs ls0), own_Fin p.tables e below (T.setTop (mkF m 17 #[.val (.ref r0), .val (.ref r1), .val (.ref b1), .val (.ref r0), .val (.int (own_I nn)), .val (.int (own_I i)), sl] [])) (fun s₂ o => s₂.status = .running ∧ Ended s₂ below o ∧ ∃ v L, o = .returned v ∧ Q3 Z r0 r1 kc kd nn cs ls0 h0 n0 v s₂.heap L ∧ FrameEnd s o s₂ L ({ frames := 1, cells := 1, slots := 7, locals := 20 } : Room).cells ({ frames := 1, cells := 1, slots := 7, locals := 20 } : Room).slots) := by
    intro ds
    induction ds with
    | nil =>
      intro ls i T hh locs sl hs X eT N K V hl hi hd ha
      have V0h := V0.keep K nin0
      refine own_go (B := T.setTop (mkF m 21 #[.val (.ref r0), .val (.ref r1), .val (.ref b1), .val (.ref r0), .val (.int (own_I nn)), .val (.int (own_I i)), sl] [(.int (own_I nn)), (.int (own_I i))])) (fun t k => ?_) ?_
      · show Steps p.tables e below (T.setTop (mkF m 17 #[.val (.ref r0), .val (.ref r1), .val (.ref b1), .val (.ref r0), .val (.int (own_I nn)), .val (.int (own_I i)), sl] [])) t
        refine XS.iload X.here hx rfl (hb hby d3_17) rfl ?_
        refine XS.iload X.here hx rfl (hb hby d3_19) rfl ?_
        exact k
      have hc7 : ¬ ((own_I i) < (own_I nn)) := own_nlt (by simp only [List.length_nil] at hi; omega)
      refine own_go (B := T.setTop (mkF m 67 #[.val (.ref r0), .val (.ref r1), .val (.ref b1), .val (.ref r0), .val (.int (own_I nn)), .val (.int (own_I i)), sl] [(.int (1 : Int32))])) (fun t k => ?_) ?_
      · show Steps p.tables e below (T.setTop (mkF m 21 #[.val (.ref r0), .val (.ref r1), .val (.ref b1), .val (.ref r0), .val (.int (own_I nn)), .val (.int (own_I i)), sl] [(.int (own_I nn)), (.int (own_I i))])) t
        refine XS.icmpYes X.here hx rfl (pc0 := 21) (pc' := 66) rfl (hb hby d3_21) rfl (flt hc7).2.1 (by decide) (by decide) ?_
        refine XS.iconst X.here hx rfl (hb hby d3_66) ?_
        exact k
      obtain ⟨fs, hr, hrun, hended, hW, hsame⟩ := X.leave (v := some (.int (1 : Int32))) (fun h => by rw [Bd.returns] at h; cases h)
      refine ⟨_, _, ?_, hrun, hended, _, _, rfl, ?_, ⟨_, rfl⟩, hW, hsame.mono (by decide) (by decide)⟩
      · exact retOut X hx (t := .boolean) Bd.returns rfl (Or.inl ⟨rfl, by simp, _, rfl⟩) (hb hby d3_67) hr
      · show Q3 Z r0 r1 kc kd nn cs ls0 h0 n0 _ T.heap _
        rw [eT]
        exact ⟨by rw [← ha]; rfl, N, K⟩
    | cons d ds ih =>
      intro ls i T hh locs sl hs X eT N K V hl hi hd ha
      have V0h := V0.keep K nin0
      have hdi : cs.getD i 0 = d := hd 0 (by simp)
      have hlen := hi
      simp only [List.length_cons] at hlen
      refine own_go (B := T.setTop (mkF m 21 #[.val (.ref r0), .val (.ref r1), .val (.ref b1), .val (.ref r0), .val (.int (own_I nn)), .val (.int (own_I i)), sl] [(.int (own_I nn)), (.int (own_I i))])) (fun t k => ?_) ?_
      · show Steps p.tables e below (T.setTop (mkF m 17 #[.val (.ref r0), .val (.ref r1), .val (.ref b1), .val (.ref r0), .val (.int (own_I nn)), .val (.int (own_I i)), sl] [])) t
        refine XS.iload X.here hx rfl (hb hby d3_17) rfl ?_
        refine XS.iload X.here hx rfl (hb hby d3_19) rfl ?_
        exact k
      have hc9 : (own_I i) < (own_I nn) := own_ltI (by omega) (by omega)
      refine own_go (B := T.setTop (mkF m 27 #[.val (.ref r0), .val (.ref r1), .val (.ref b1), .val (.ref r0), .val (.int (own_I nn)), .val (.int (own_I i)), sl] [(.int (own_I i)), (.ref r0)])) (fun t k => ?_) ?_
      · show Steps p.tables e below (T.setTop (mkF m 21 #[.val (.ref r0), .val (.ref r1), .val (.ref b1), .val (.ref r0), .val (.int (own_I nn)), .val (.int (own_I i)), sl] [(.int (own_I nn)), (.int (own_I i))])) t
        refine XS.icmpNo X.here hx rfl (hb hby d3_21) rfl (tlt hc9).2.1 ?_
        refine XS.aloadN X.here hx rfl (hb hby d3_24) rfl rfl ?_
        refine XS.iload X.here hx rfl (hb hby d3_25) rfl ?_
        exact k
      obtain ⟨cl10, Ar10, -, S10, M10, Ha10, G10⟩ := id V0h
      have hin10 : ¬ ((own_I i) < 0 ∨ cl10.slots.size ≤ ((own_I i)).toNatClampNeg) := inb_of S10 (own_inI (by omega) (by omega))
      have hat10 : cl10.slots[((own_I i)).toNatClampNeg]? = some (.int d) := Has.at Ha10 hin10 (own_getI2 cs (by omega) hdi)
      refine own_go (B := T.setTop (mkF m 28 #[.val (.ref r0), .val (.ref r1), .val (.ref b1), .val (.ref r0), .val (.int (own_I nn)), .val (.int (own_I i)), sl] [(.int d)])) (fun t k => ?_) ?_
      · exact X.iaload hx (j := (own_I i)) (v := (.int d)) (by rw [eT]; exact Ar10.1) (State.isArrayOf_alike hZ.alike Ar10.2.1) Ar10.2.2 hin10 hat10 (g := (mkF m 27 #[.val (.ref r0), .val (.ref r1), .val (.ref b1), .val (.ref r0), .val (.int (own_I nn)), .val (.int (own_I i)), sl] [(.int (own_I i)), (.ref r0)])) rfl rfl (hb hby d3_27) _ k
      refine own_go (B := T.setTop (mkF m 33 #[.val (.ref r0), .val (.ref r1), .val (.ref b1), .val (.ref r0), .val (.int (own_I nn)), .val (.int (own_I i)), .val (.int d)] [(.int (1 : Int32)), (.int d)])) (fun t k => ?_) ?_
      · show Steps p.tables e below (T.setTop (mkF m 28 #[.val (.ref r0), .val (.ref r1), .val (.ref b1), .val (.ref r0), .val (.int (own_I nn)), .val (.int (own_I i)), sl] [(.int d)])) t
        refine XS.istore X.here hx rfl (hb hby d3_28) rfl (l' := #[.val (.ref r0), .val (.ref r1), .val (.ref b1), .val (.ref r0), .val (.int (own_I nn)), .val (.int (own_I i)), .val (.int d)]) (own_os hs) ?_
        refine XS.iload X.here hx rfl (hb hby d3_30) rfl ?_
        refine XS.iconst X.here hx rfl (hb hby d3_32) ?_
        exact k
      by_cases hc11 : d < (1 : Int32)
      · skip
        refine own_go (B := T.setTop (mkF m 51 #[.val (.ref r0), .val (.ref r1), .val (.ref b1), .val (.ref r0), .val (.int (own_I nn)), .val (.int (own_I i)), .val (.int d)] [(.int (0 : Int32))])) (fun t k => ?_) ?_
        · show Steps p.tables e below (T.setTop (mkF m 33 #[.val (.ref r0), .val (.ref r1), .val (.ref b1), .val (.ref r0), .val (.int (own_I nn)), .val (.int (own_I i)), .val (.int d)] [(.int (1 : Int32)), (.int d)])) t
          refine XS.icmpYes X.here hx rfl (pc0 := 33) (pc' := 50) rfl (hb hby d3_33) rfl (tlt hc11).1 (by decide) (by decide) ?_
          refine XS.iconst X.here hx rfl (hb hby d3_50) ?_
          exact k
        obtain ⟨fs, hr, hrun, hended, hW, hsame⟩ := X.leave (v := some (.int (0 : Int32))) (fun h => by rw [Bd.returns] at h; cases h)
        refine ⟨_, _, ?_, hrun, hended, _, _, rfl, ?_, ⟨_, rfl⟩, hW, hsame.mono (by decide) (by decide)⟩
        · exact retOut X hx (t := .boolean) Bd.returns rfl (Or.inl ⟨rfl, by simp, _, rfl⟩) (hb hby d3_51) hr
        · show Q3 Z r0 r1 kc kd nn cs ls0 h0 n0 _ T.heap _
          rw [eT]
          exact ⟨by rw [← ha]; unfold own_am; simp only [if_pos hc11], N, K⟩
      · skip
        refine own_go (B := T.setTop (mkF m 40 #[.val (.ref r0), .val (.ref r1), .val (.ref b1), .val (.ref r0), .val (.int (own_I nn)), .val (.int (own_I i)), .val (.int d)] [(.int (6 : Int32)), (.int d)])) (fun t k => ?_) ?_
        · show Steps p.tables e below (T.setTop (mkF m 33 #[.val (.ref r0), .val (.ref r1), .val (.ref b1), .val (.ref r0), .val (.int (own_I nn)), .val (.int (own_I i)), .val (.int d)] [(.int (1 : Int32)), (.int d)])) t
          refine XS.icmpNo X.here hx rfl (hb hby d3_33) rfl (flt hc11).1 ?_
          refine XS.iload X.here hx rfl (hb hby d3_36) rfl ?_
          refine XS.bipush X.here hx rfl (hb hby d3_38) ?_
          exact k
        by_cases hc13 : (6 : Int32) < d
        · skip
          refine own_go (B := T.setTop (mkF m 51 #[.val (.ref r0), .val (.ref r1), .val (.ref b1), .val (.ref r0), .val (.int (own_I nn)), .val (.int (own_I i)), .val (.int d)] [(.int (0 : Int32))])) (fun t k => ?_) ?_
          · show Steps p.tables e below (T.setTop (mkF m 40 #[.val (.ref r0), .val (.ref r1), .val (.ref b1), .val (.ref r0), .val (.int (own_I nn)), .val (.int (own_I i)), .val (.int d)] [(.int (6 : Int32)), (.int d)])) t
            refine XS.icmpYes X.here hx rfl (pc0 := 40) (pc' := 50) rfl (hb hby d3_40) rfl (tlt hc13).2.2.1 (by decide) (by decide) ?_
            refine XS.iconst X.here hx rfl (hb hby d3_50) ?_
            exact k
          obtain ⟨fs, hr, hrun, hended, hW, hsame⟩ := X.leave (v := some (.int (0 : Int32))) (fun h => by rw [Bd.returns] at h; cases h)
          refine ⟨_, _, ?_, hrun, hended, _, _, rfl, ?_, ⟨_, rfl⟩, hW, hsame.mono (by decide) (by decide)⟩
          · exact retOut X hx (t := .boolean) Bd.returns rfl (Or.inl ⟨rfl, by simp, _, rfl⟩) (hb hby d3_51) hr
          · show Q3 Z r0 r1 kc kd nn cs ls0 h0 n0 _ T.heap _
            rw [eT]
            exact ⟨by rw [← ha]; unfold own_am; simp only [if_neg hc11, if_pos hc13], N, K⟩
        · skip
          refine own_go (B := T.setTop (mkF m 46 #[.val (.ref r0), .val (.ref r1), .val (.ref b1), .val (.ref r0), .val (.int (own_I nn)), .val (.int (own_I i)), .val (.int d)] [(.int d), (.ref b1)])) (fun t k => ?_) ?_
          · show Steps p.tables e below (T.setTop (mkF m 40 #[.val (.ref r0), .val (.ref r1), .val (.ref b1), .val (.ref r0), .val (.int (own_I nn)), .val (.int (own_I i)), .val (.int d)] [(.int (6 : Int32)), (.int d)])) t
            refine XS.icmpNo X.here hx rfl (hb hby d3_40) rfl (flt hc13).2.2.1 ?_
            refine XS.aloadN X.here hx rfl (hb hby d3_43) rfl rfl ?_
            refine XS.iload X.here hx rfl (hb hby d3_44) rfl ?_
            exact k
          obtain ⟨cl15, Ar15, -, S15, M15, Ha15, G15⟩ := id V
          have hin15 : ¬ (d < 0 ∨ cl15.slots.size ≤ (d).toNatClampNeg) := inb_of S15 (own_in7 hc11 hc13)
          have hat15 : cl15.slots[(d).toNatClampNeg]? = some (.int (ls.getD d.toNatClampNeg 0)) := Has.at Ha15 hin15 (own_getM ls _)
          refine own_go (B := T.setTop (mkF m 47 #[.val (.ref r0), .val (.ref r1), .val (.ref b1), .val (.ref r0), .val (.int (own_I nn)), .val (.int (own_I i)), .val (.int d)] [(.int (ls.getD d.toNatClampNeg 0))])) (fun t k => ?_) ?_
          · exact X.iaload hx (j := d) (v := (.int (ls.getD d.toNatClampNeg 0))) (by rw [eT]; exact Ar15.1) (State.isArrayOf_alike hZ.alike Ar15.2.1) Ar15.2.2 hin15 hat15 (g := (mkF m 46 #[.val (.ref r0), .val (.ref r1), .val (.ref b1), .val (.ref r0), .val (.int (own_I nn)), .val (.int (own_I i)), .val (.int d)] [(.int d), (.ref b1)])) rfl rfl (hb hby d3_46) _ k
          by_cases hc16 : (ls.getD d.toNatClampNeg 0) = (0 : Int32)
          · skip
            refine own_go (B := T.setTop (mkF m 51 #[.val (.ref r0), .val (.ref r1), .val (.ref b1), .val (.ref r0), .val (.int (own_I nn)), .val (.int (own_I i)), .val (.int d)] [(.int (0 : Int32))])) (fun t k => ?_) ?_
            · show Steps p.tables e below (T.setTop (mkF m 47 #[.val (.ref r0), .val (.ref r1), .val (.ref b1), .val (.ref r0), .val (.int (own_I nn)), .val (.int (own_I i)), .val (.int d)] [(.int (ls.getD d.toNatClampNeg 0))])) t
              refine XS.ifNo X.here hx rfl (hb hby d3_47) rfl ((if0 _ _).trans (teq hc16).2) ?_
              refine XS.iconst X.here hx rfl (hb hby d3_50) ?_
              exact k
            obtain ⟨fs, hr, hrun, hended, hW, hsame⟩ := X.leave (v := some (.int (0 : Int32))) (fun h => by rw [Bd.returns] at h; cases h)
            refine ⟨_, _, ?_, hrun, hended, _, _, rfl, ?_, ⟨_, rfl⟩, hW, hsame.mono (by decide) (by decide)⟩
            · exact retOut X hx (t := .boolean) Bd.returns rfl (Or.inl ⟨rfl, by simp, _, rfl⟩) (hb hby d3_51) hr
            · show Q3 Z r0 r1 kc kd nn cs ls0 h0 n0 _ T.heap _
              rw [eT]
              exact ⟨by rw [← ha]; unfold own_am; simp only [if_neg hc11, if_neg hc13, if_pos hc16], N, K⟩
          · skip
            refine own_go (B := T.setTop (mkF m 56 #[.val (.ref r0), .val (.ref r1), .val (.ref b1), .val (.ref r0), .val (.int (own_I nn)), .val (.int (own_I i)), .val (.int d)] [(.int d), (.ref b1), (.int d), (.ref b1)])) (fun t k => ?_) ?_
            · show Steps p.tables e below (T.setTop (mkF m 47 #[.val (.ref r0), .val (.ref r1), .val (.ref b1), .val (.ref r0), .val (.int (own_I nn)), .val (.int (own_I i)), .val (.int d)] [(.int (ls.getD d.toNatClampNeg 0))])) t
              refine XS.ifYes X.here hx rfl (pc0 := 47) (pc' := 52) rfl (hb hby d3_47) rfl ((if0 _ _).trans (feq hc16).2) (by decide) (by decide) ?_
              refine XS.aloadN X.here hx rfl (hb hby d3_52) rfl rfl ?_
              refine XS.iload X.here hx rfl (hb hby d3_53) rfl ?_
              jvm_step X.here [X.here.top, hx, (hb hby d3_55), Value.category]
              exact k
            obtain ⟨cl18, Ar18, -, S18, M18, Ha18, G18⟩ := id V
            have hin18 : ¬ (d < 0 ∨ cl18.slots.size ≤ (d).toNatClampNeg) := inb_of S18 (own_in7 hc11 hc13)
            have hat18 : cl18.slots[(d).toNatClampNeg]? = some (.int (ls.getD d.toNatClampNeg 0)) := Has.at Ha18 hin18 (own_getM ls _)
            refine own_go (B := T.setTop (mkF m 57 #[.val (.ref r0), .val (.ref r1), .val (.ref b1), .val (.ref r0), .val (.int (own_I nn)), .val (.int (own_I i)), .val (.int d)] [(.int (ls.getD d.toNatClampNeg 0)), (.int d), (.ref b1)])) (fun t k => ?_) ?_
            · exact X.iaload hx (j := d) (v := (.int (ls.getD d.toNatClampNeg 0))) (by rw [eT]; exact Ar18.1) (State.isArrayOf_alike hZ.alike Ar18.2.1) Ar18.2.2 hin18 hat18 (g := (mkF m 56 #[.val (.ref r0), .val (.ref r1), .val (.ref b1), .val (.ref r0), .val (.int (own_I nn)), .val (.int (own_I i)), .val (.int d)] [(.int d), (.ref b1), (.int d), (.ref b1)])) rfl rfl (hb hby d3_56) _ k
            refine own_go (B := T.setTop (mkF m 59 #[.val (.ref r0), .val (.ref r1), .val (.ref b1), .val (.ref r0), .val (.int (own_I nn)), .val (.int (own_I i)), .val (.int d)] [(.int ((ls.getD d.toNatClampNeg 0) - (1 : Int32))), (.int d), (.ref b1)])) (fun t k => ?_) ?_
            · show Steps p.tables e below (T.setTop (mkF m 57 #[.val (.ref r0), .val (.ref r1), .val (.ref b1), .val (.ref r0), .val (.int (own_I nn)), .val (.int (own_I i)), .val (.int d)] [(.int (ls.getD d.toNatClampNeg 0)), (.int d), (.ref b1)])) t
              refine XS.iconst X.here hx rfl (hb hby d3_57) ?_
              refine XS.isub X.here hx rfl (hb hby d3_58) rfl ?_
              exact k
            obtain ⟨cl19, Ar19, q19, S19, M19, Ha19, G19⟩ := id V
            have hin19 : ¬ (d < 0 ∨ cl19.slots.size ≤ (d).toNatClampNeg) := inb_of S19 (own_in7 hc11 hc13)
            obtain ⟨T19, h19, X19, e19, W19, st19⟩ := stI X hx hZ eT Ar19 (j := d) hin19 (g := (mkF m 59 #[.val (.ref r0), .val (.ref r1), .val (.ref b1), .val (.ref r0), .val (.int (own_I nn)), .val (.int (own_I i)), .val (.int d)] [(.int ((ls.getD d.toNatClampNeg 0) - (1 : Int32))), (.int d), (.ref b1)])) rfl rfl (hb hby d3_59)
            have N19 := Fr.snoc X19 N g_b1
            have K19 : Keep h0 h19 [] := K.wr W19 (Or.inr sz_b1)
            have V19 : Arv Z h19 b1 kd .int (7 : Int32) ((ls.set d.toNatClampNeg (ls.getD d.toNatClampNeg 0 - 1)).map Value.int) (.int (0 : Int32)) := own_setI (Arv.set Ar19 q19 S19 M19 Ha19 G19 rfl W19 d.toNatClampNeg rfl (by rw [List.length_map, hl]; exact own_lt7 hc11 hc13))
            refine own_go st19 ?_
            show own_Fin p.tables e below (T19.setTop (mkF m 60 #[.val (.ref r0), .val (.ref r1), .val (.ref b1), .val (.ref r0), .val (.int (own_I nn)), .val (.int (own_I i)), .val (.int d)] [])) _
            refine own_go (B := T19.setTop (mkF m 17 #[.val (.ref r0), .val (.ref r1), .val (.ref b1), .val (.ref r0), .val (.int (own_I nn)), .val (.int ((own_I i) + (1 : Int32))), .val (.int d)] [])) (fun t k => ?_) ?_
            · show Steps p.tables e below (T19.setTop (mkF m 60 #[.val (.ref r0), .val (.ref r1), .val (.ref b1), .val (.ref r0), .val (.int (own_I nn)), .val (.int (own_I i)), .val (.int d)] [])) t
              refine XS.iinc X19.here hx rfl (hb hby d3_60) rfl (l' := #[.val (.ref r0), .val (.ref r1), .val (.ref b1), .val (.ref r0), .val (.int (own_I nn)), .val (.int ((own_I i) + (1 : Int32))), .val (.int d)]) rfl ?_
              refine XS.goto X19.here hx rfl (pc0 := 63) (pc' := 17) rfl (hb hby d3_63) (by decide) (by decide) ?_
              exact k
            refine own_go (B := T19.setTop (mkF m 17 #[.val (.ref r0), .val (.ref r1), .val (.ref b1), .val (.ref r0), .val (.int (own_I nn)), .val (.int (own_I (i + 1))), .val (.int d)] [])) (fun t k => (congrArg (fun z => Steps p.tables e below (T19.setTop (mkF m 17 #[.val (.ref r0), .val (.ref r1), .val (.ref b1), .val (.ref r0), .val (.int (own_I nn)), .val (.int z), .val (.int d)] [])) t) (own_inc (by omega))).mpr k) ?_
            exact ih (ls.set d.toNatClampNeg (ls.getD d.toNatClampNeg 0 - 1)) (i + 1) _ _ _ (.val (.int d)) (One.val rfl) X19 e19 N19 K19 V19 (by rw [List.length_set]; exact hl) (by have := hi; simp only [List.length_cons] at this; omega) (fun j hj => by have := hd (j + 1) (by simp only [List.length_cons]; omega); rw [show i + (j + 1) = i + 1 + j by omega] at this; exact this) (by rw [← ha]; exact (own_am_go hc11 hc13 hc16).symm)
  exact loop cs ls0 0 _ _ _ _ One.u X4 e4 N0 K1 V1 hls (by rw [hcs]; omega) (fun j hj => by rw [Nat.zero_add]) rfl
theorem pn0 : plainName "com/example/rollhaus/rollhaus/dice/FacesAmongPinLaw" = true := by first | (simp [plainName, overriddenIn]; done) | decide +kernel
theorem pd0_0 : parseMethodDescriptor "(II)I" = some ⟨[.int, .int], some .int⟩ := by decide +kernel
theorem pd0_1 : parseMethodDescriptor "([I[I)Z" = some ⟨[(.array .int), (.array .int)], some .boolean⟩ := by decide +kernel
theorem pd0_2 : parseMethodDescriptor "(IIIIII)Z" = some ⟨[.int, .int, .int, .int, .int, .int], some .boolean⟩ := by decide +kernel
theorem ef0 (m : MethodId) (p0 : Int32) (p1 : Int32) (p2 : Int32) (p3 : Int32) (p4 : Int32) : entryFrame m #[(.int p0), (.int p1), (.int p2), (.int p3), (.int p4)] maxLocals = mkF m 0 #[.val (.int p0), .val (.int p1), .val (.int p2), .val (.int p3), .val (.int p4), .unset, .unset, .unset, .unset, .unset, .unset, .unset, .unset, .unset, .unset] [] := by first | (simp [entryFrame, mkF, argsToLocals, Value.category, maxLocals]; done) | rfl
def Q0 (Z : State) (p0 : Int32) (p1 : Int32) (p2 : Int32) (p3 : Int32) (p4 : Int32) (h0 : Heap) (n0 : Nat) (v : Option Value) (h : Heap) (L : List Loc) : Prop := v = some (.int 1) ∧ Fr n0 L
set_option maxRecDepth 65536 in
set_option maxHeartbeats 40000000 in
theorem rm0 (l : Launch) (Z : State) (a0 : Array Value) (hw : ∀ d ∈ tables_1, d.before a0 Z = true) (ws : List Jvm.Cond) (p0 : Int32) (p1 : Int32) (p2 : Int32) (p3 : Int32) (p4 : Int32) (h0 : Heap) (n0 : Nat) (Z0 : n0 ≤ h0.size) :
    MetFree l x (head1 (Jvm.Cond.code x code maxLocals ret :: ws) room_1) (fun a U => a = #[(.int p0), (.int p1), (.int p2), (.int p3), (.int p4)] ∧ Z.Warmed39 U.vm ∧ U.heap = h0) (fun _ _ _ _ _ => True) (fun _ U o U' => ∃ v L, o = .returned v ∧ Q0 Z p0 p1 p2 p3 p4 h0 n0 v U'.heap L ∧ FrameEnd U o U' L room_1.cells room_1.slots) := by
  refine MetFree.of_bodySF (plainFor_of_name pn0) hisR ?_
  intro p e s m args below meth c s₁ Bd hml0 hP hK
  obtain ⟨rfl, hZ, hh⟩ := hP
  have hx := Bd.exec
  have hby := Bd.bytes
  have hml : c.maxLocals = 15 := hml0
  have hown : s.vm.findClass "com/example/rollhaus/rollhaus/dice/FacesAmongPinLaw" = some m.cls := findClass_of_methodNamed Bd.named
  have hnm := (name_of_methodNamed Bd.named Bd.method).1
  have X0 : Stand p l e room_1 s m #[(.int p0), (.int p1), (.int p2), (.int p3), (.int p4)] below meth c s₁ [] 0 0 := Stand.of_body Bd
  have e0 : s₁.heap = h0 := by rw [← hh, Bd.state]; rfl
  have N0 := Fr.nil n0
  have K0 : Keep h0 h0 [] := Keep.refl h0 _
  refine own_in ?_
  refine own_go (B := s₁.setTop (mkF m 0 #[.val (.int p0), .val (.int p1), .val (.int p2), .val (.int p3), .val (.int p4), .unset, .unset, .unset, .unset, .unset, .unset, .unset, .unset, .unset, .unset] [])) (fun t k => castTop (ef0 m p0 p1 p2 p3 p4) k) ?_
  refine own_go (B := s₁.setTop (mkF m 3 #[.val (.int p0), .val (.int p1), .val (.int p2), .val (.int p3), .val (.int p4), .unset, .unset, .unset, .unset, .unset, .unset, .unset, .unset, .unset, .unset] [(.int (p0 &&& (3 : Int32)))])) (fun t k => ?_) ?_
  · show Steps p.tables e below (s₁.setTop (mkF m 0 #[.val (.int p0), .val (.int p1), .val (.int p2), .val (.int p3), .val (.int p4), .unset, .unset, .unset, .unset, .unset, .unset, .unset, .unset, .unset, .unset] [])) t
    refine XS.iloadN X0.here hx rfl (hb hby at_0) rfl ?_
    refine XS.iconst X0.here hx rfl (hb hby at_1) ?_
    refine XS.iand X0.here hx rfl (hb hby at_2) rfl ?_
    exact k
  rcases own_and3 p0 with hn | hn | hn | hn
  · skip
    refine own_go (B := s₁.setTop (mkF m 3 #[.val (.int p0), .val (.int p1), .val (.int p2), .val (.int p3), .val (.int p4), .unset, .unset, .unset, .unset, .unset, .unset, .unset, .unset, .unset, .unset] [(.int (0 : Int32))])) (fun t k => (congrArg (fun z => Steps p.tables e below (s₁.setTop (mkF m 3 #[.val (.int p0), .val (.int p1), .val (.int p2), .val (.int p3), .val (.int p4), .unset, .unset, .unset, .unset, .unset, .unset, .unset, .unset, .unset, .unset] [(.int z)])) t) (hn)).mpr k) ?_
    refine own_go (B := s₁.setTop (mkF m 8 #[.val (.int p0), .val (.int p1), .val (.int p2), .val (.int p3), .val (.int p4), .val (.int (0 : Int32)), .unset, .unset, .unset, .unset, .unset, .unset, .unset, .unset, .unset] [(.int (p0 &&& (4 : Int32)))])) (fun t k => ?_) ?_
    · show Steps p.tables e below (s₁.setTop (mkF m 3 #[.val (.int p0), .val (.int p1), .val (.int p2), .val (.int p3), .val (.int p4), .unset, .unset, .unset, .unset, .unset, .unset, .unset, .unset, .unset, .unset] [(.int (0 : Int32))])) t
      refine XS.istore X0.here hx rfl (hb hby at_3) rfl (l' := #[.val (.int p0), .val (.int p1), .val (.int p2), .val (.int p3), .val (.int p4), .val (.int (0 : Int32)), .unset, .unset, .unset, .unset, .unset, .unset, .unset, .unset, .unset]) rfl ?_
      refine XS.iloadN X0.here hx rfl (hb hby at_5) rfl ?_
      refine XS.iconst X0.here hx rfl (hb hby at_6) ?_
      refine XS.iand X0.here hx rfl (hb hby at_7) rfl ?_
      exact k
    refine own_go (B := s₁.setTop (mkF m 19 #[.val (.int p0), .val (.int p1), .val (.int p2), .val (.int p3), .val (.int p4), .val (.int (0 : Int32)), .unset, .unset, .unset, .unset, .unset, .unset, .unset, .unset, .unset] [(.int (if (p0 &&& (4 : Int32)) = (0 : Int32) then (p1 &&& (7 : Int32)) else p1))])) (fun t k => ?_) ?_
    · skip
      show Steps p.tables e below (s₁.setTop (mkF m 8 #[.val (.int p0), .val (.int p1), .val (.int p2), .val (.int p3), .val (.int p4), .val (.int (0 : Int32)), .unset, .unset, .unset, .unset, .unset, .unset, .unset, .unset, .unset] [(.int (p0 &&& (4 : Int32)))])) t
      by_cases hd1 : (p0 &&& (4 : Int32)) = (0 : Int32)
      · refine XS.ifYes X0.here hx rfl (pc0 := 8) (pc' := 15) rfl (hb hby at_8) rfl ((if0 _ _).trans (teq hd1).1) (by decide) (by decide) ?_
        show Steps p.tables e below (s₁.setTop (mkF m 15 #[.val (.int p0), .val (.int p1), .val (.int p2), .val (.int p3), .val (.int p4), .val (.int (0 : Int32)), .unset, .unset, .unset, .unset, .unset, .unset, .unset, .unset, .unset] [])) t
        refine XS.iloadN X0.here hx rfl (hb hby at_15) rfl ?_
        show Steps p.tables e below (s₁.setTop (mkF m 16 #[.val (.int p0), .val (.int p1), .val (.int p2), .val (.int p3), .val (.int p4), .val (.int (0 : Int32)), .unset, .unset, .unset, .unset, .unset, .unset, .unset, .unset, .unset] [(.int p1)])) t
        refine XS.bipush X0.here hx rfl (hb hby at_16) ?_
        show Steps p.tables e below (s₁.setTop (mkF m 18 #[.val (.int p0), .val (.int p1), .val (.int p2), .val (.int p3), .val (.int p4), .val (.int (0 : Int32)), .unset, .unset, .unset, .unset, .unset, .unset, .unset, .unset, .unset] [(.int (7 : Int32)), (.int p1)])) t
        refine XS.iand X0.here hx rfl (hb hby at_18) rfl ?_
        show Steps p.tables e below (s₁.setTop (mkF m 19 #[.val (.int p0), .val (.int p1), .val (.int p2), .val (.int p3), .val (.int p4), .val (.int (0 : Int32)), .unset, .unset, .unset, .unset, .unset, .unset, .unset, .unset, .unset] [(.int (p1 &&& (7 : Int32)))])) t
        exact (congrArg (fun z => Steps p.tables e below (s₁.setTop (mkF m 19 #[.val (.int p0), .val (.int p1), .val (.int p2), .val (.int p3), .val (.int p4), .val (.int (0 : Int32)), .unset, .unset, .unset, .unset, .unset, .unset, .unset, .unset, .unset] [(.int z)])) t) (if_pos hd1)).mp k
      · refine XS.ifNo X0.here hx rfl (hb hby at_8) rfl ((if0 _ _).trans (feq hd1).1) ?_
        show Steps p.tables e below (s₁.setTop (mkF m 11 #[.val (.int p0), .val (.int p1), .val (.int p2), .val (.int p3), .val (.int p4), .val (.int (0 : Int32)), .unset, .unset, .unset, .unset, .unset, .unset, .unset, .unset, .unset] [])) t
        refine XS.iloadN X0.here hx rfl (hb hby at_11) rfl ?_
        show Steps p.tables e below (s₁.setTop (mkF m 12 #[.val (.int p0), .val (.int p1), .val (.int p2), .val (.int p3), .val (.int p4), .val (.int (0 : Int32)), .unset, .unset, .unset, .unset, .unset, .unset, .unset, .unset, .unset] [(.int p1)])) t
        refine XS.goto X0.here hx rfl (pc0 := 12) (pc' := 19) rfl (hb hby at_12) (by decide) (by decide) ?_
        show Steps p.tables e below (s₁.setTop (mkF m 19 #[.val (.int p0), .val (.int p1), .val (.int p2), .val (.int p3), .val (.int p4), .val (.int (0 : Int32)), .unset, .unset, .unset, .unset, .unset, .unset, .unset, .unset, .unset] [(.int p1)])) t
        exact (congrArg (fun z => Steps p.tables e below (s₁.setTop (mkF m 19 #[.val (.int p0), .val (.int p1), .val (.int p2), .val (.int p3), .val (.int p4), .val (.int (0 : Int32)), .unset, .unset, .unset, .unset, .unset, .unset, .unset, .unset, .unset] [(.int z)])) t) (if_neg hd1)).mp k
    obtain ⟨d0, hd0⟩ : ∃ z, z = (if (p0 &&& (4 : Int32)) = (0 : Int32) then (p1 &&& (7 : Int32)) else p1) := ⟨_, rfl⟩
    refine own_go (B := s₁.setTop (mkF m 19 #[.val (.int p0), .val (.int p1), .val (.int p2), .val (.int p3), .val (.int p4), .val (.int (0 : Int32)), .unset, .unset, .unset, .unset, .unset, .unset, .unset, .unset, .unset] [(.int d0)])) (fun t k => (congrArg (fun z => Steps p.tables e below (s₁.setTop (mkF m 19 #[.val (.int p0), .val (.int p1), .val (.int p2), .val (.int p3), .val (.int p4), .val (.int (0 : Int32)), .unset, .unset, .unset, .unset, .unset, .unset, .unset, .unset, .unset] [(.int z)])) t) (hd0.symm)).mpr k) ?_
    refine own_go (B := s₁.setTop (mkF m 25 #[.val (.int p0), .val (.int p1), .val (.int p2), .val (.int p3), .val (.int p4), .val (.int (0 : Int32)), .val (.int d0), .unset, .unset, .unset, .unset, .unset, .unset, .unset, .unset] [(.int (p0 &&& (8 : Int32)))])) (fun t k => ?_) ?_
    · show Steps p.tables e below (s₁.setTop (mkF m 19 #[.val (.int p0), .val (.int p1), .val (.int p2), .val (.int p3), .val (.int p4), .val (.int (0 : Int32)), .unset, .unset, .unset, .unset, .unset, .unset, .unset, .unset, .unset] [(.int d0)])) t
      refine XS.istore X0.here hx rfl (hb hby at_19) rfl (l' := #[.val (.int p0), .val (.int p1), .val (.int p2), .val (.int p3), .val (.int p4), .val (.int (0 : Int32)), .val (.int d0), .unset, .unset, .unset, .unset, .unset, .unset, .unset, .unset]) rfl ?_
      refine XS.iloadN X0.here hx rfl (hb hby at_21) rfl ?_
      refine XS.bipush X0.here hx rfl (hb hby at_22) ?_
      refine XS.iand X0.here hx rfl (hb hby at_24) rfl ?_
      exact k
    refine own_go (B := s₁.setTop (mkF m 36 #[.val (.int p0), .val (.int p1), .val (.int p2), .val (.int p3), .val (.int p4), .val (.int (0 : Int32)), .val (.int d0), .unset, .unset, .unset, .unset, .unset, .unset, .unset, .unset] [(.int (if (p0 &&& (8 : Int32)) = (0 : Int32) then (p2 &&& (7 : Int32)) else p2))])) (fun t k => ?_) ?_
    · skip
      show Steps p.tables e below (s₁.setTop (mkF m 25 #[.val (.int p0), .val (.int p1), .val (.int p2), .val (.int p3), .val (.int p4), .val (.int (0 : Int32)), .val (.int d0), .unset, .unset, .unset, .unset, .unset, .unset, .unset, .unset] [(.int (p0 &&& (8 : Int32)))])) t
      by_cases hd2 : (p0 &&& (8 : Int32)) = (0 : Int32)
      · refine XS.ifYes X0.here hx rfl (pc0 := 25) (pc' := 32) rfl (hb hby at_25) rfl ((if0 _ _).trans (teq hd2).1) (by decide) (by decide) ?_
        show Steps p.tables e below (s₁.setTop (mkF m 32 #[.val (.int p0), .val (.int p1), .val (.int p2), .val (.int p3), .val (.int p4), .val (.int (0 : Int32)), .val (.int d0), .unset, .unset, .unset, .unset, .unset, .unset, .unset, .unset] [])) t
        refine XS.iloadN X0.here hx rfl (hb hby at_32) rfl ?_
        show Steps p.tables e below (s₁.setTop (mkF m 33 #[.val (.int p0), .val (.int p1), .val (.int p2), .val (.int p3), .val (.int p4), .val (.int (0 : Int32)), .val (.int d0), .unset, .unset, .unset, .unset, .unset, .unset, .unset, .unset] [(.int p2)])) t
        refine XS.bipush X0.here hx rfl (hb hby at_33) ?_
        show Steps p.tables e below (s₁.setTop (mkF m 35 #[.val (.int p0), .val (.int p1), .val (.int p2), .val (.int p3), .val (.int p4), .val (.int (0 : Int32)), .val (.int d0), .unset, .unset, .unset, .unset, .unset, .unset, .unset, .unset] [(.int (7 : Int32)), (.int p2)])) t
        refine XS.iand X0.here hx rfl (hb hby at_35) rfl ?_
        show Steps p.tables e below (s₁.setTop (mkF m 36 #[.val (.int p0), .val (.int p1), .val (.int p2), .val (.int p3), .val (.int p4), .val (.int (0 : Int32)), .val (.int d0), .unset, .unset, .unset, .unset, .unset, .unset, .unset, .unset] [(.int (p2 &&& (7 : Int32)))])) t
        exact (congrArg (fun z => Steps p.tables e below (s₁.setTop (mkF m 36 #[.val (.int p0), .val (.int p1), .val (.int p2), .val (.int p3), .val (.int p4), .val (.int (0 : Int32)), .val (.int d0), .unset, .unset, .unset, .unset, .unset, .unset, .unset, .unset] [(.int z)])) t) (if_pos hd2)).mp k
      · refine XS.ifNo X0.here hx rfl (hb hby at_25) rfl ((if0 _ _).trans (feq hd2).1) ?_
        show Steps p.tables e below (s₁.setTop (mkF m 28 #[.val (.int p0), .val (.int p1), .val (.int p2), .val (.int p3), .val (.int p4), .val (.int (0 : Int32)), .val (.int d0), .unset, .unset, .unset, .unset, .unset, .unset, .unset, .unset] [])) t
        refine XS.iloadN X0.here hx rfl (hb hby at_28) rfl ?_
        show Steps p.tables e below (s₁.setTop (mkF m 29 #[.val (.int p0), .val (.int p1), .val (.int p2), .val (.int p3), .val (.int p4), .val (.int (0 : Int32)), .val (.int d0), .unset, .unset, .unset, .unset, .unset, .unset, .unset, .unset] [(.int p2)])) t
        refine XS.goto X0.here hx rfl (pc0 := 29) (pc' := 36) rfl (hb hby at_29) (by decide) (by decide) ?_
        show Steps p.tables e below (s₁.setTop (mkF m 36 #[.val (.int p0), .val (.int p1), .val (.int p2), .val (.int p3), .val (.int p4), .val (.int (0 : Int32)), .val (.int d0), .unset, .unset, .unset, .unset, .unset, .unset, .unset, .unset] [(.int p2)])) t
        exact (congrArg (fun z => Steps p.tables e below (s₁.setTop (mkF m 36 #[.val (.int p0), .val (.int p1), .val (.int p2), .val (.int p3), .val (.int p4), .val (.int (0 : Int32)), .val (.int d0), .unset, .unset, .unset, .unset, .unset, .unset, .unset, .unset] [(.int z)])) t) (if_neg hd2)).mp k
    obtain ⟨d1, hd1⟩ : ∃ z, z = (if (p0 &&& (8 : Int32)) = (0 : Int32) then (p2 &&& (7 : Int32)) else p2) := ⟨_, rfl⟩
    refine own_go (B := s₁.setTop (mkF m 36 #[.val (.int p0), .val (.int p1), .val (.int p2), .val (.int p3), .val (.int p4), .val (.int (0 : Int32)), .val (.int d0), .unset, .unset, .unset, .unset, .unset, .unset, .unset, .unset] [(.int d1)])) (fun t k => (congrArg (fun z => Steps p.tables e below (s₁.setTop (mkF m 36 #[.val (.int p0), .val (.int p1), .val (.int p2), .val (.int p3), .val (.int p4), .val (.int (0 : Int32)), .val (.int d0), .unset, .unset, .unset, .unset, .unset, .unset, .unset, .unset] [(.int z)])) t) (hd1.symm)).mpr k) ?_
    refine own_go (B := s₁.setTop (mkF m 42 #[.val (.int p0), .val (.int p1), .val (.int p2), .val (.int p3), .val (.int p4), .val (.int (0 : Int32)), .val (.int d0), .val (.int d1), .unset, .unset, .unset, .unset, .unset, .unset, .unset] [(.int (p0 &&& (16 : Int32)))])) (fun t k => ?_) ?_
    · show Steps p.tables e below (s₁.setTop (mkF m 36 #[.val (.int p0), .val (.int p1), .val (.int p2), .val (.int p3), .val (.int p4), .val (.int (0 : Int32)), .val (.int d0), .unset, .unset, .unset, .unset, .unset, .unset, .unset, .unset] [(.int d1)])) t
      refine XS.istore X0.here hx rfl (hb hby at_36) rfl (l' := #[.val (.int p0), .val (.int p1), .val (.int p2), .val (.int p3), .val (.int p4), .val (.int (0 : Int32)), .val (.int d0), .val (.int d1), .unset, .unset, .unset, .unset, .unset, .unset, .unset]) rfl ?_
      refine XS.iloadN X0.here hx rfl (hb hby at_38) rfl ?_
      refine XS.bipush X0.here hx rfl (hb hby at_39) ?_
      refine XS.iand X0.here hx rfl (hb hby at_41) rfl ?_
      exact k
    refine own_go (B := s₁.setTop (mkF m 53 #[.val (.int p0), .val (.int p1), .val (.int p2), .val (.int p3), .val (.int p4), .val (.int (0 : Int32)), .val (.int d0), .val (.int d1), .unset, .unset, .unset, .unset, .unset, .unset, .unset] [(.int (if (p0 &&& (16 : Int32)) = (0 : Int32) then (p3 &&& (7 : Int32)) else p3))])) (fun t k => ?_) ?_
    · skip
      show Steps p.tables e below (s₁.setTop (mkF m 42 #[.val (.int p0), .val (.int p1), .val (.int p2), .val (.int p3), .val (.int p4), .val (.int (0 : Int32)), .val (.int d0), .val (.int d1), .unset, .unset, .unset, .unset, .unset, .unset, .unset] [(.int (p0 &&& (16 : Int32)))])) t
      by_cases hd3 : (p0 &&& (16 : Int32)) = (0 : Int32)
      · refine XS.ifYes X0.here hx rfl (pc0 := 42) (pc' := 49) rfl (hb hby at_42) rfl ((if0 _ _).trans (teq hd3).1) (by decide) (by decide) ?_
        show Steps p.tables e below (s₁.setTop (mkF m 49 #[.val (.int p0), .val (.int p1), .val (.int p2), .val (.int p3), .val (.int p4), .val (.int (0 : Int32)), .val (.int d0), .val (.int d1), .unset, .unset, .unset, .unset, .unset, .unset, .unset] [])) t
        refine XS.iloadN X0.here hx rfl (hb hby at_49) rfl ?_
        show Steps p.tables e below (s₁.setTop (mkF m 50 #[.val (.int p0), .val (.int p1), .val (.int p2), .val (.int p3), .val (.int p4), .val (.int (0 : Int32)), .val (.int d0), .val (.int d1), .unset, .unset, .unset, .unset, .unset, .unset, .unset] [(.int p3)])) t
        refine XS.bipush X0.here hx rfl (hb hby at_50) ?_
        show Steps p.tables e below (s₁.setTop (mkF m 52 #[.val (.int p0), .val (.int p1), .val (.int p2), .val (.int p3), .val (.int p4), .val (.int (0 : Int32)), .val (.int d0), .val (.int d1), .unset, .unset, .unset, .unset, .unset, .unset, .unset] [(.int (7 : Int32)), (.int p3)])) t
        refine XS.iand X0.here hx rfl (hb hby at_52) rfl ?_
        show Steps p.tables e below (s₁.setTop (mkF m 53 #[.val (.int p0), .val (.int p1), .val (.int p2), .val (.int p3), .val (.int p4), .val (.int (0 : Int32)), .val (.int d0), .val (.int d1), .unset, .unset, .unset, .unset, .unset, .unset, .unset] [(.int (p3 &&& (7 : Int32)))])) t
        exact (congrArg (fun z => Steps p.tables e below (s₁.setTop (mkF m 53 #[.val (.int p0), .val (.int p1), .val (.int p2), .val (.int p3), .val (.int p4), .val (.int (0 : Int32)), .val (.int d0), .val (.int d1), .unset, .unset, .unset, .unset, .unset, .unset, .unset] [(.int z)])) t) (if_pos hd3)).mp k
      · refine XS.ifNo X0.here hx rfl (hb hby at_42) rfl ((if0 _ _).trans (feq hd3).1) ?_
        show Steps p.tables e below (s₁.setTop (mkF m 45 #[.val (.int p0), .val (.int p1), .val (.int p2), .val (.int p3), .val (.int p4), .val (.int (0 : Int32)), .val (.int d0), .val (.int d1), .unset, .unset, .unset, .unset, .unset, .unset, .unset] [])) t
        refine XS.iloadN X0.here hx rfl (hb hby at_45) rfl ?_
        show Steps p.tables e below (s₁.setTop (mkF m 46 #[.val (.int p0), .val (.int p1), .val (.int p2), .val (.int p3), .val (.int p4), .val (.int (0 : Int32)), .val (.int d0), .val (.int d1), .unset, .unset, .unset, .unset, .unset, .unset, .unset] [(.int p3)])) t
        refine XS.goto X0.here hx rfl (pc0 := 46) (pc' := 53) rfl (hb hby at_46) (by decide) (by decide) ?_
        show Steps p.tables e below (s₁.setTop (mkF m 53 #[.val (.int p0), .val (.int p1), .val (.int p2), .val (.int p3), .val (.int p4), .val (.int (0 : Int32)), .val (.int d0), .val (.int d1), .unset, .unset, .unset, .unset, .unset, .unset, .unset] [(.int p3)])) t
        exact (congrArg (fun z => Steps p.tables e below (s₁.setTop (mkF m 53 #[.val (.int p0), .val (.int p1), .val (.int p2), .val (.int p3), .val (.int p4), .val (.int (0 : Int32)), .val (.int d0), .val (.int d1), .unset, .unset, .unset, .unset, .unset, .unset, .unset] [(.int z)])) t) (if_neg hd3)).mp k
    obtain ⟨d2, hd2⟩ : ∃ z, z = (if (p0 &&& (16 : Int32)) = (0 : Int32) then (p3 &&& (7 : Int32)) else p3) := ⟨_, rfl⟩
    refine own_go (B := s₁.setTop (mkF m 53 #[.val (.int p0), .val (.int p1), .val (.int p2), .val (.int p3), .val (.int p4), .val (.int (0 : Int32)), .val (.int d0), .val (.int d1), .unset, .unset, .unset, .unset, .unset, .unset, .unset] [(.int d2)])) (fun t k => (congrArg (fun z => Steps p.tables e below (s₁.setTop (mkF m 53 #[.val (.int p0), .val (.int p1), .val (.int p2), .val (.int p3), .val (.int p4), .val (.int (0 : Int32)), .val (.int d0), .val (.int d1), .unset, .unset, .unset, .unset, .unset, .unset, .unset] [(.int z)])) t) (hd2.symm)).mpr k) ?_
    refine own_go (B := s₁.setTop (mkF m 57 #[.val (.int p0), .val (.int p1), .val (.int p2), .val (.int p3), .val (.int p4), .val (.int (0 : Int32)), .val (.int d0), .val (.int d1), .val (.int d2), .unset, .unset, .unset, .unset, .unset, .unset] [(.int (7 : Int32))])) (fun t k => ?_) ?_
    · show Steps p.tables e below (s₁.setTop (mkF m 53 #[.val (.int p0), .val (.int p1), .val (.int p2), .val (.int p3), .val (.int p4), .val (.int (0 : Int32)), .val (.int d0), .val (.int d1), .unset, .unset, .unset, .unset, .unset, .unset, .unset] [(.int d2)])) t
      refine XS.istore X0.here hx rfl (hb hby at_53) rfl (l' := #[.val (.int p0), .val (.int p1), .val (.int p2), .val (.int p3), .val (.int p4), .val (.int (0 : Int32)), .val (.int d0), .val (.int d1), .val (.int d2), .unset, .unset, .unset, .unset, .unset, .unset]) rfl ?_
      refine XS.bipush X0.here hx rfl (hb hby at_55) ?_
      exact k
    obtain ⟨T4, h4, k4, X4, e4, E4, A4, EA4, st4⟩ := newPE X0 hx hZ (hw _ (List.mem_of_getElem? (i := 0) rfl)) e0 (g := (mkF m 57 #[.val (.int p0), .val (.int p1), .val (.int p2), .val (.int p3), .val (.int p4), .val (.int (0 : Int32)), .val (.int d0), .val (.int d1), .val (.int d2), .unset, .unset, .unset, .unset, .unset, .unset] [(.int (7 : Int32))])) rfl (hb hby at_57) rfl (by decide) (cap := 7) (by decide) (by decide) (by decide) (by decide) (ad := "[I") (by decide)
    obtain ⟨b4, g4⟩ : ∃ z, z = h0.size := ⟨_, rfl⟩
    rw [← g4] at A4 EA4 st4
    have g_b4 : n0 ≤ b4 := by rw [g4]; exact Z0
    have sz_b4 : h0.size ≤ b4 := by rw [g4]; exact K0.1
    have K4 : Keep h0 h4 [] := K0.ext E4
    have X4 : Stand p l e room_1 s m #[(.int p0), (.int p1), (.int p2), (.int p3), (.int p4)] below meth c T4 _ 1 7 := X4
    have V_b4 : Arv Z h4 b4 k4 .int (7 : Int32) [(.int (0 : Int32)), (.int (0 : Int32)), (.int (0 : Int32)), (.int (0 : Int32)), (.int (0 : Int32)), (.int (0 : Int32)), (.int (0 : Int32))] (.int (0 : Int32)) := (Arv.new A4 (by decide)).pad (pad_rep [] (.int (0 : Int32)) 7)
    refine own_go st4 ?_
    show own_Fin p.tables e below (T4.setTop (mkF m 59 #[.val (.int p0), .val (.int p1), .val (.int p2), .val (.int p3), .val (.int p4), .val (.int (0 : Int32)), .val (.int d0), .val (.int d1), .val (.int d2), .unset, .unset, .unset, .unset, .unset, .unset] [(.ref b4)])) _
    refine own_go (B := T4.setTop (mkF m 67 #[.val (.int p0), .val (.int p1), .val (.int p2), .val (.int p3), .val (.int p4), .val (.int (0 : Int32)), .val (.int d0), .val (.int d1), .val (.int d2), .val (.ref b4), .unset, .unset, .unset, .unset, .unset] [(.int (0 : Int32)), (.int p4), (.int (0 : Int32)), (.ref b4)])) (fun t k => ?_) ?_
    · show Steps p.tables e below (T4.setTop (mkF m 59 #[.val (.int p0), .val (.int p1), .val (.int p2), .val (.int p3), .val (.int p4), .val (.int (0 : Int32)), .val (.int d0), .val (.int d1), .val (.int d2), .unset, .unset, .unset, .unset, .unset, .unset] [(.ref b4)])) t
      refine XS.astore X4.here hx rfl (hb hby at_59) rfl rfl (l' := #[.val (.int p0), .val (.int p1), .val (.int p2), .val (.int p3), .val (.int p4), .val (.int (0 : Int32)), .val (.int d0), .val (.int d1), .val (.int d2), .val (.ref b4), .unset, .unset, .unset, .unset, .unset]) rfl ?_
      refine XS.aload X4.here hx rfl (hb hby at_61) rfl rfl ?_
      refine XS.iconst X4.here hx rfl (hb hby at_63) ?_
      refine XS.iload X4.here hx rfl (hb hby at_64) rfl ?_
      show Steps p.tables e below (T4.setTop (mkF m 66 #[.val (.int p0), .val (.int p1), .val (.int p2), .val (.int p3), .val (.int p4), .val (.int (0 : Int32)), .val (.int d0), .val (.int d1), .val (.int d2), .val (.ref b4), .unset, .unset, .unset, .unset, .unset] [(.int p4), (.int (0 : Int32)), (.ref b4)])) t
      refine XS.iconst X4.here hx rfl (hb hby at_66) ?_
      exact k
    obtain ⟨_, _, ⟨T5, L5, k5, n5⟩, -, X5, ⟨Lc5, hQ5, l5, y5, z5⟩, st5⟩ := Jvm.LawKit.callS X4 hx (y := (⟨"com/example/rollhaus/rollhaus/dice/FacesAmongPinLaw", "cnt", "(II)I"⟩ : MethodName)) hown (mvT hZ (hw _ (List.mem_of_getElem? (i := 1) rfl))) (mvT hZ (hw _ (List.mem_of_getElem? (i := 2) rfl))) (mvT hZ (hw _ (List.mem_of_getElem? (i := 3) rfl))) (mvT hZ (hw _ (List.mem_of_getElem? (i := 4) rfl))) (by decide) (backOf (W := 2) (rm1 l Z a0 hw [] p4 (0 : Int32)  h4 n0 (Nat.le_trans Z0 K4.1) ) hZ (hw _ (List.mem_of_getElem? (i := 4) rfl)) (hw _ (List.mem_of_getElem? (i := 3) rfl)) (by decide) (by decide)) (g := (mkF m 67 #[.val (.int p0), .val (.int p1), .val (.int p2), .val (.int p3), .val (.int p4), .val (.int (0 : Int32)), .val (.int d0), .val (.int d1), .val (.int d2), .val (.ref b4), .unset, .unset, .unset, .unset, .unset] [(.int (0 : Int32)), (.int p4), (.int (0 : Int32)), (.ref b4)])) rfl (by rw [hml]; rfl) (argsL := [(.int p4), (.int (0 : Int32))]) (rest := [(.int (0 : Int32)), (.ref b4)]) (lenOf pd0_0 rfl) rfl (by show 2 * 0 + _ ≤ _; exact Nat.le_of_eq rfl) (hb hby at_67) (fun _ _ => ⟨rfl, e4, (by decide : 1 + 0 ≤ _), (by decide : 7 + 0 ≤ _)⟩)
    dsimp only [Pt.U, Pt.locs, Pt.cells, Pt.slots] at X5 l5 y5 z5 st5 hQ5
    subst y5 z5
    have X5 : Stand p l e room_1 s m #[(.int p0), (.int p1), (.int p2), (.int p3), (.int p4)] below meth c T5 _ 1 7 := X5
    obtain ⟨rfl, N5q, e5⟩ := hQ5
    have N5 : Fr n0 L5 := by rw [l5]; exact Fr.app N0 N5q
    refine own_go (st5) ?_
    show own_Fin p.tables e below (T5.setTop (mkF m 70 #[.val (.int p0), .val (.int p1), .val (.int p2), .val (.int p3), .val (.int p4), .val (.int (0 : Int32)), .val (.int d0), .val (.int d1), .val (.int d2), .val (.ref b4), .unset, .unset, .unset, .unset, .unset] [(.int (own_cnt p4 (0 : Int32))), (.int (0 : Int32)), (.ref b4)])) _
    obtain ⟨cl6, Ar6, q6, S6, M6, Ha6, G6⟩ := id V_b4
    have hin6 : ¬ ((0 : Int32) < 0 ∨ cl6.slots.size ≤ ((0 : Int32)).toNatClampNeg) := inb_of S6 ⟨by decide, by decide⟩
    obtain ⟨T6, h6, X6, e6, W6, st6⟩ := stI X5 hx hZ e5 Ar6 (j := (0 : Int32)) hin6 (g := (mkF m 70 #[.val (.int p0), .val (.int p1), .val (.int p2), .val (.int p3), .val (.int p4), .val (.int (0 : Int32)), .val (.int d0), .val (.int d1), .val (.int d2), .val (.ref b4), .unset, .unset, .unset, .unset, .unset] [(.int (own_cnt p4 (0 : Int32))), (.int (0 : Int32)), (.ref b4)])) rfl rfl (hb hby at_70)
    have N6 := Fr.snoc X6 N5 g_b4
    have K6 : Keep h0 h6 [] := K4.wr W6 (Or.inr sz_b4)
    have V6 : Arv Z h6 b4 k4 .int (7 : Int32) [(.int (own_cnt p4 (0 : Int32))), (.int (0 : Int32)), (.int (0 : Int32)), (.int (0 : Int32)), (.int (0 : Int32)), (.int (0 : Int32)), (.int (0 : Int32))] (.int (0 : Int32)) := Arv.set Ar6 q6 S6 M6 Ha6 G6 rfl W6 0 rfl (Nat.le_of_ble_eq_true rfl)
    refine own_go st6 ?_
    show own_Fin p.tables e below (T6.setTop (mkF m 71 #[.val (.int p0), .val (.int p1), .val (.int p2), .val (.int p3), .val (.int p4), .val (.int (0 : Int32)), .val (.int d0), .val (.int d1), .val (.int d2), .val (.ref b4), .unset, .unset, .unset, .unset, .unset] [])) _
    refine own_go (B := T6.setTop (mkF m 77 #[.val (.int p0), .val (.int p1), .val (.int p2), .val (.int p3), .val (.int p4), .val (.int (0 : Int32)), .val (.int d0), .val (.int d1), .val (.int d2), .val (.ref b4), .unset, .unset, .unset, .unset, .unset] [(.int (1 : Int32)), (.int p4), (.int (1 : Int32)), (.ref b4)])) (fun t k => ?_) ?_
    · show Steps p.tables e below (T6.setTop (mkF m 71 #[.val (.int p0), .val (.int p1), .val (.int p2), .val (.int p3), .val (.int p4), .val (.int (0 : Int32)), .val (.int d0), .val (.int d1), .val (.int d2), .val (.ref b4), .unset, .unset, .unset, .unset, .unset] [])) t
      refine XS.aload X6.here hx rfl (hb hby at_71) rfl rfl ?_
      refine XS.iconst X6.here hx rfl (hb hby at_73) ?_
      refine XS.iload X6.here hx rfl (hb hby at_74) rfl ?_
      refine XS.iconst X6.here hx rfl (hb hby at_76) ?_
      exact k
    obtain ⟨_, _, ⟨T7, L7, k7, n7⟩, -, X7, ⟨Lc7, hQ7, l7, y7, z7⟩, st7⟩ := Jvm.LawKit.callS X6 hx (y := (⟨"com/example/rollhaus/rollhaus/dice/FacesAmongPinLaw", "cnt", "(II)I"⟩ : MethodName)) hown (mvT hZ (hw _ (List.mem_of_getElem? (i := 1) rfl))) (mvT hZ (hw _ (List.mem_of_getElem? (i := 2) rfl))) (mvT hZ (hw _ (List.mem_of_getElem? (i := 3) rfl))) (mvT hZ (hw _ (List.mem_of_getElem? (i := 4) rfl))) (by decide) (backOf (W := 2) (rm1 l Z a0 hw [] p4 (1 : Int32)  h6 n0 (Nat.le_trans Z0 K6.1) ) hZ (hw _ (List.mem_of_getElem? (i := 4) rfl)) (hw _ (List.mem_of_getElem? (i := 3) rfl)) (by decide) (by decide)) (g := (mkF m 77 #[.val (.int p0), .val (.int p1), .val (.int p2), .val (.int p3), .val (.int p4), .val (.int (0 : Int32)), .val (.int d0), .val (.int d1), .val (.int d2), .val (.ref b4), .unset, .unset, .unset, .unset, .unset] [(.int (1 : Int32)), (.int p4), (.int (1 : Int32)), (.ref b4)])) rfl (by rw [hml]; rfl) (argsL := [(.int p4), (.int (1 : Int32))]) (rest := [(.int (1 : Int32)), (.ref b4)]) (lenOf pd0_0 rfl) rfl (by show 2 * 0 + _ ≤ _; exact Nat.le_of_eq rfl) (hb hby at_77) (fun _ _ => ⟨rfl, e6, (by decide : 1 + 0 ≤ _), (by decide : 7 + 0 ≤ _)⟩)
    dsimp only [Pt.U, Pt.locs, Pt.cells, Pt.slots] at X7 l7 y7 z7 st7 hQ7
    subst y7 z7
    have X7 : Stand p l e room_1 s m #[(.int p0), (.int p1), (.int p2), (.int p3), (.int p4)] below meth c T7 _ 1 7 := X7
    obtain ⟨rfl, N7q, e7⟩ := hQ7
    have N7 : Fr n0 L7 := by rw [l7]; exact Fr.app N6 N7q
    refine own_go (st7) ?_
    show own_Fin p.tables e below (T7.setTop (mkF m 80 #[.val (.int p0), .val (.int p1), .val (.int p2), .val (.int p3), .val (.int p4), .val (.int (0 : Int32)), .val (.int d0), .val (.int d1), .val (.int d2), .val (.ref b4), .unset, .unset, .unset, .unset, .unset] [(.int (own_cnt p4 (1 : Int32))), (.int (1 : Int32)), (.ref b4)])) _
    obtain ⟨cl8, Ar8, q8, S8, M8, Ha8, G8⟩ := id V6
    have hin8 : ¬ ((1 : Int32) < 0 ∨ cl8.slots.size ≤ ((1 : Int32)).toNatClampNeg) := inb_of S8 ⟨by decide, by decide⟩
    obtain ⟨T8, h8, X8, e8, W8, st8⟩ := stI X7 hx hZ e7 Ar8 (j := (1 : Int32)) hin8 (g := (mkF m 80 #[.val (.int p0), .val (.int p1), .val (.int p2), .val (.int p3), .val (.int p4), .val (.int (0 : Int32)), .val (.int d0), .val (.int d1), .val (.int d2), .val (.ref b4), .unset, .unset, .unset, .unset, .unset] [(.int (own_cnt p4 (1 : Int32))), (.int (1 : Int32)), (.ref b4)])) rfl rfl (hb hby at_80)
    have N8 := Fr.snoc X8 N7 g_b4
    have K8 : Keep h0 h8 [] := K6.wr W8 (Or.inr sz_b4)
    have V8 : Arv Z h8 b4 k4 .int (7 : Int32) [(.int (own_cnt p4 (0 : Int32))), (.int (own_cnt p4 (1 : Int32))), (.int (0 : Int32)), (.int (0 : Int32)), (.int (0 : Int32)), (.int (0 : Int32)), (.int (0 : Int32))] (.int (0 : Int32)) := Arv.set Ar8 q8 S8 M8 Ha8 G8 rfl W8 1 rfl (Nat.le_of_ble_eq_true rfl)
    refine own_go st8 ?_
    show own_Fin p.tables e below (T8.setTop (mkF m 81 #[.val (.int p0), .val (.int p1), .val (.int p2), .val (.int p3), .val (.int p4), .val (.int (0 : Int32)), .val (.int d0), .val (.int d1), .val (.int d2), .val (.ref b4), .unset, .unset, .unset, .unset, .unset] [])) _
    refine own_go (B := T8.setTop (mkF m 87 #[.val (.int p0), .val (.int p1), .val (.int p2), .val (.int p3), .val (.int p4), .val (.int (0 : Int32)), .val (.int d0), .val (.int d1), .val (.int d2), .val (.ref b4), .unset, .unset, .unset, .unset, .unset] [(.int (2 : Int32)), (.int p4), (.int (2 : Int32)), (.ref b4)])) (fun t k => ?_) ?_
    · show Steps p.tables e below (T8.setTop (mkF m 81 #[.val (.int p0), .val (.int p1), .val (.int p2), .val (.int p3), .val (.int p4), .val (.int (0 : Int32)), .val (.int d0), .val (.int d1), .val (.int d2), .val (.ref b4), .unset, .unset, .unset, .unset, .unset] [])) t
      refine XS.aload X8.here hx rfl (hb hby at_81) rfl rfl ?_
      refine XS.iconst X8.here hx rfl (hb hby at_83) ?_
      refine XS.iload X8.here hx rfl (hb hby at_84) rfl ?_
      refine XS.iconst X8.here hx rfl (hb hby at_86) ?_
      exact k
    obtain ⟨_, _, ⟨T9, L9, k9, n9⟩, -, X9, ⟨Lc9, hQ9, l9, y9, z9⟩, st9⟩ := Jvm.LawKit.callS X8 hx (y := (⟨"com/example/rollhaus/rollhaus/dice/FacesAmongPinLaw", "cnt", "(II)I"⟩ : MethodName)) hown (mvT hZ (hw _ (List.mem_of_getElem? (i := 1) rfl))) (mvT hZ (hw _ (List.mem_of_getElem? (i := 2) rfl))) (mvT hZ (hw _ (List.mem_of_getElem? (i := 3) rfl))) (mvT hZ (hw _ (List.mem_of_getElem? (i := 4) rfl))) (by decide) (backOf (W := 2) (rm1 l Z a0 hw [] p4 (2 : Int32)  h8 n0 (Nat.le_trans Z0 K8.1) ) hZ (hw _ (List.mem_of_getElem? (i := 4) rfl)) (hw _ (List.mem_of_getElem? (i := 3) rfl)) (by decide) (by decide)) (g := (mkF m 87 #[.val (.int p0), .val (.int p1), .val (.int p2), .val (.int p3), .val (.int p4), .val (.int (0 : Int32)), .val (.int d0), .val (.int d1), .val (.int d2), .val (.ref b4), .unset, .unset, .unset, .unset, .unset] [(.int (2 : Int32)), (.int p4), (.int (2 : Int32)), (.ref b4)])) rfl (by rw [hml]; rfl) (argsL := [(.int p4), (.int (2 : Int32))]) (rest := [(.int (2 : Int32)), (.ref b4)]) (lenOf pd0_0 rfl) rfl (by show 2 * 0 + _ ≤ _; exact Nat.le_of_eq rfl) (hb hby at_87) (fun _ _ => ⟨rfl, e8, (by decide : 1 + 0 ≤ _), (by decide : 7 + 0 ≤ _)⟩)
    dsimp only [Pt.U, Pt.locs, Pt.cells, Pt.slots] at X9 l9 y9 z9 st9 hQ9
    subst y9 z9
    have X9 : Stand p l e room_1 s m #[(.int p0), (.int p1), (.int p2), (.int p3), (.int p4)] below meth c T9 _ 1 7 := X9
    obtain ⟨rfl, N9q, e9⟩ := hQ9
    have N9 : Fr n0 L9 := by rw [l9]; exact Fr.app N8 N9q
    refine own_go (st9) ?_
    show own_Fin p.tables e below (T9.setTop (mkF m 90 #[.val (.int p0), .val (.int p1), .val (.int p2), .val (.int p3), .val (.int p4), .val (.int (0 : Int32)), .val (.int d0), .val (.int d1), .val (.int d2), .val (.ref b4), .unset, .unset, .unset, .unset, .unset] [(.int (own_cnt p4 (2 : Int32))), (.int (2 : Int32)), (.ref b4)])) _
    obtain ⟨cl10, Ar10, q10, S10, M10, Ha10, G10⟩ := id V8
    have hin10 : ¬ ((2 : Int32) < 0 ∨ cl10.slots.size ≤ ((2 : Int32)).toNatClampNeg) := inb_of S10 ⟨by decide, by decide⟩
    obtain ⟨T10, h10, X10, e10, W10, st10⟩ := stI X9 hx hZ e9 Ar10 (j := (2 : Int32)) hin10 (g := (mkF m 90 #[.val (.int p0), .val (.int p1), .val (.int p2), .val (.int p3), .val (.int p4), .val (.int (0 : Int32)), .val (.int d0), .val (.int d1), .val (.int d2), .val (.ref b4), .unset, .unset, .unset, .unset, .unset] [(.int (own_cnt p4 (2 : Int32))), (.int (2 : Int32)), (.ref b4)])) rfl rfl (hb hby at_90)
    have N10 := Fr.snoc X10 N9 g_b4
    have K10 : Keep h0 h10 [] := K8.wr W10 (Or.inr sz_b4)
    have V10 : Arv Z h10 b4 k4 .int (7 : Int32) [(.int (own_cnt p4 (0 : Int32))), (.int (own_cnt p4 (1 : Int32))), (.int (own_cnt p4 (2 : Int32))), (.int (0 : Int32)), (.int (0 : Int32)), (.int (0 : Int32)), (.int (0 : Int32))] (.int (0 : Int32)) := Arv.set Ar10 q10 S10 M10 Ha10 G10 rfl W10 2 rfl (Nat.le_of_ble_eq_true rfl)
    refine own_go st10 ?_
    show own_Fin p.tables e below (T10.setTop (mkF m 91 #[.val (.int p0), .val (.int p1), .val (.int p2), .val (.int p3), .val (.int p4), .val (.int (0 : Int32)), .val (.int d0), .val (.int d1), .val (.int d2), .val (.ref b4), .unset, .unset, .unset, .unset, .unset] [])) _
    refine own_go (B := T10.setTop (mkF m 97 #[.val (.int p0), .val (.int p1), .val (.int p2), .val (.int p3), .val (.int p4), .val (.int (0 : Int32)), .val (.int d0), .val (.int d1), .val (.int d2), .val (.ref b4), .unset, .unset, .unset, .unset, .unset] [(.int (3 : Int32)), (.int p4), (.int (3 : Int32)), (.ref b4)])) (fun t k => ?_) ?_
    · show Steps p.tables e below (T10.setTop (mkF m 91 #[.val (.int p0), .val (.int p1), .val (.int p2), .val (.int p3), .val (.int p4), .val (.int (0 : Int32)), .val (.int d0), .val (.int d1), .val (.int d2), .val (.ref b4), .unset, .unset, .unset, .unset, .unset] [])) t
      refine XS.aload X10.here hx rfl (hb hby at_91) rfl rfl ?_
      refine XS.iconst X10.here hx rfl (hb hby at_93) ?_
      refine XS.iload X10.here hx rfl (hb hby at_94) rfl ?_
      refine XS.iconst X10.here hx rfl (hb hby at_96) ?_
      exact k
    obtain ⟨_, _, ⟨T11, L11, k11, n11⟩, -, X11, ⟨Lc11, hQ11, l11, y11, z11⟩, st11⟩ := Jvm.LawKit.callS X10 hx (y := (⟨"com/example/rollhaus/rollhaus/dice/FacesAmongPinLaw", "cnt", "(II)I"⟩ : MethodName)) hown (mvT hZ (hw _ (List.mem_of_getElem? (i := 1) rfl))) (mvT hZ (hw _ (List.mem_of_getElem? (i := 2) rfl))) (mvT hZ (hw _ (List.mem_of_getElem? (i := 3) rfl))) (mvT hZ (hw _ (List.mem_of_getElem? (i := 4) rfl))) (by decide) (backOf (W := 2) (rm1 l Z a0 hw [] p4 (3 : Int32)  h10 n0 (Nat.le_trans Z0 K10.1) ) hZ (hw _ (List.mem_of_getElem? (i := 4) rfl)) (hw _ (List.mem_of_getElem? (i := 3) rfl)) (by decide) (by decide)) (g := (mkF m 97 #[.val (.int p0), .val (.int p1), .val (.int p2), .val (.int p3), .val (.int p4), .val (.int (0 : Int32)), .val (.int d0), .val (.int d1), .val (.int d2), .val (.ref b4), .unset, .unset, .unset, .unset, .unset] [(.int (3 : Int32)), (.int p4), (.int (3 : Int32)), (.ref b4)])) rfl (by rw [hml]; rfl) (argsL := [(.int p4), (.int (3 : Int32))]) (rest := [(.int (3 : Int32)), (.ref b4)]) (lenOf pd0_0 rfl) rfl (by show 2 * 0 + _ ≤ _; exact Nat.le_of_eq rfl) (hb hby at_97) (fun _ _ => ⟨rfl, e10, (by decide : 1 + 0 ≤ _), (by decide : 7 + 0 ≤ _)⟩)
    dsimp only [Pt.U, Pt.locs, Pt.cells, Pt.slots] at X11 l11 y11 z11 st11 hQ11
    subst y11 z11
    have X11 : Stand p l e room_1 s m #[(.int p0), (.int p1), (.int p2), (.int p3), (.int p4)] below meth c T11 _ 1 7 := X11
    obtain ⟨rfl, N11q, e11⟩ := hQ11
    have N11 : Fr n0 L11 := by rw [l11]; exact Fr.app N10 N11q
    refine own_go (st11) ?_
    show own_Fin p.tables e below (T11.setTop (mkF m 100 #[.val (.int p0), .val (.int p1), .val (.int p2), .val (.int p3), .val (.int p4), .val (.int (0 : Int32)), .val (.int d0), .val (.int d1), .val (.int d2), .val (.ref b4), .unset, .unset, .unset, .unset, .unset] [(.int (own_cnt p4 (3 : Int32))), (.int (3 : Int32)), (.ref b4)])) _
    obtain ⟨cl12, Ar12, q12, S12, M12, Ha12, G12⟩ := id V10
    have hin12 : ¬ ((3 : Int32) < 0 ∨ cl12.slots.size ≤ ((3 : Int32)).toNatClampNeg) := inb_of S12 ⟨by decide, by decide⟩
    obtain ⟨T12, h12, X12, e12, W12, st12⟩ := stI X11 hx hZ e11 Ar12 (j := (3 : Int32)) hin12 (g := (mkF m 100 #[.val (.int p0), .val (.int p1), .val (.int p2), .val (.int p3), .val (.int p4), .val (.int (0 : Int32)), .val (.int d0), .val (.int d1), .val (.int d2), .val (.ref b4), .unset, .unset, .unset, .unset, .unset] [(.int (own_cnt p4 (3 : Int32))), (.int (3 : Int32)), (.ref b4)])) rfl rfl (hb hby at_100)
    have N12 := Fr.snoc X12 N11 g_b4
    have K12 : Keep h0 h12 [] := K10.wr W12 (Or.inr sz_b4)
    have V12 : Arv Z h12 b4 k4 .int (7 : Int32) [(.int (own_cnt p4 (0 : Int32))), (.int (own_cnt p4 (1 : Int32))), (.int (own_cnt p4 (2 : Int32))), (.int (own_cnt p4 (3 : Int32))), (.int (0 : Int32)), (.int (0 : Int32)), (.int (0 : Int32))] (.int (0 : Int32)) := Arv.set Ar12 q12 S12 M12 Ha12 G12 rfl W12 3 rfl (Nat.le_of_ble_eq_true rfl)
    refine own_go st12 ?_
    show own_Fin p.tables e below (T12.setTop (mkF m 101 #[.val (.int p0), .val (.int p1), .val (.int p2), .val (.int p3), .val (.int p4), .val (.int (0 : Int32)), .val (.int d0), .val (.int d1), .val (.int d2), .val (.ref b4), .unset, .unset, .unset, .unset, .unset] [])) _
    refine own_go (B := T12.setTop (mkF m 107 #[.val (.int p0), .val (.int p1), .val (.int p2), .val (.int p3), .val (.int p4), .val (.int (0 : Int32)), .val (.int d0), .val (.int d1), .val (.int d2), .val (.ref b4), .unset, .unset, .unset, .unset, .unset] [(.int (4 : Int32)), (.int p4), (.int (4 : Int32)), (.ref b4)])) (fun t k => ?_) ?_
    · show Steps p.tables e below (T12.setTop (mkF m 101 #[.val (.int p0), .val (.int p1), .val (.int p2), .val (.int p3), .val (.int p4), .val (.int (0 : Int32)), .val (.int d0), .val (.int d1), .val (.int d2), .val (.ref b4), .unset, .unset, .unset, .unset, .unset] [])) t
      refine XS.aload X12.here hx rfl (hb hby at_101) rfl rfl ?_
      refine XS.iconst X12.here hx rfl (hb hby at_103) ?_
      refine XS.iload X12.here hx rfl (hb hby at_104) rfl ?_
      refine XS.iconst X12.here hx rfl (hb hby at_106) ?_
      exact k
    obtain ⟨_, _, ⟨T13, L13, k13, n13⟩, -, X13, ⟨Lc13, hQ13, l13, y13, z13⟩, st13⟩ := Jvm.LawKit.callS X12 hx (y := (⟨"com/example/rollhaus/rollhaus/dice/FacesAmongPinLaw", "cnt", "(II)I"⟩ : MethodName)) hown (mvT hZ (hw _ (List.mem_of_getElem? (i := 1) rfl))) (mvT hZ (hw _ (List.mem_of_getElem? (i := 2) rfl))) (mvT hZ (hw _ (List.mem_of_getElem? (i := 3) rfl))) (mvT hZ (hw _ (List.mem_of_getElem? (i := 4) rfl))) (by decide) (backOf (W := 2) (rm1 l Z a0 hw [] p4 (4 : Int32)  h12 n0 (Nat.le_trans Z0 K12.1) ) hZ (hw _ (List.mem_of_getElem? (i := 4) rfl)) (hw _ (List.mem_of_getElem? (i := 3) rfl)) (by decide) (by decide)) (g := (mkF m 107 #[.val (.int p0), .val (.int p1), .val (.int p2), .val (.int p3), .val (.int p4), .val (.int (0 : Int32)), .val (.int d0), .val (.int d1), .val (.int d2), .val (.ref b4), .unset, .unset, .unset, .unset, .unset] [(.int (4 : Int32)), (.int p4), (.int (4 : Int32)), (.ref b4)])) rfl (by rw [hml]; rfl) (argsL := [(.int p4), (.int (4 : Int32))]) (rest := [(.int (4 : Int32)), (.ref b4)]) (lenOf pd0_0 rfl) rfl (by show 2 * 0 + _ ≤ _; exact Nat.le_of_eq rfl) (hb hby at_107) (fun _ _ => ⟨rfl, e12, (by decide : 1 + 0 ≤ _), (by decide : 7 + 0 ≤ _)⟩)
    dsimp only [Pt.U, Pt.locs, Pt.cells, Pt.slots] at X13 l13 y13 z13 st13 hQ13
    subst y13 z13
    have X13 : Stand p l e room_1 s m #[(.int p0), (.int p1), (.int p2), (.int p3), (.int p4)] below meth c T13 _ 1 7 := X13
    obtain ⟨rfl, N13q, e13⟩ := hQ13
    have N13 : Fr n0 L13 := by rw [l13]; exact Fr.app N12 N13q
    refine own_go (st13) ?_
    show own_Fin p.tables e below (T13.setTop (mkF m 110 #[.val (.int p0), .val (.int p1), .val (.int p2), .val (.int p3), .val (.int p4), .val (.int (0 : Int32)), .val (.int d0), .val (.int d1), .val (.int d2), .val (.ref b4), .unset, .unset, .unset, .unset, .unset] [(.int (own_cnt p4 (4 : Int32))), (.int (4 : Int32)), (.ref b4)])) _
    obtain ⟨cl14, Ar14, q14, S14, M14, Ha14, G14⟩ := id V12
    have hin14 : ¬ ((4 : Int32) < 0 ∨ cl14.slots.size ≤ ((4 : Int32)).toNatClampNeg) := inb_of S14 ⟨by decide, by decide⟩
    obtain ⟨T14, h14, X14, e14, W14, st14⟩ := stI X13 hx hZ e13 Ar14 (j := (4 : Int32)) hin14 (g := (mkF m 110 #[.val (.int p0), .val (.int p1), .val (.int p2), .val (.int p3), .val (.int p4), .val (.int (0 : Int32)), .val (.int d0), .val (.int d1), .val (.int d2), .val (.ref b4), .unset, .unset, .unset, .unset, .unset] [(.int (own_cnt p4 (4 : Int32))), (.int (4 : Int32)), (.ref b4)])) rfl rfl (hb hby at_110)
    have N14 := Fr.snoc X14 N13 g_b4
    have K14 : Keep h0 h14 [] := K12.wr W14 (Or.inr sz_b4)
    have V14 : Arv Z h14 b4 k4 .int (7 : Int32) [(.int (own_cnt p4 (0 : Int32))), (.int (own_cnt p4 (1 : Int32))), (.int (own_cnt p4 (2 : Int32))), (.int (own_cnt p4 (3 : Int32))), (.int (own_cnt p4 (4 : Int32))), (.int (0 : Int32)), (.int (0 : Int32))] (.int (0 : Int32)) := Arv.set Ar14 q14 S14 M14 Ha14 G14 rfl W14 4 rfl (Nat.le_of_ble_eq_true rfl)
    refine own_go st14 ?_
    show own_Fin p.tables e below (T14.setTop (mkF m 111 #[.val (.int p0), .val (.int p1), .val (.int p2), .val (.int p3), .val (.int p4), .val (.int (0 : Int32)), .val (.int d0), .val (.int d1), .val (.int d2), .val (.ref b4), .unset, .unset, .unset, .unset, .unset] [])) _
    refine own_go (B := T14.setTop (mkF m 117 #[.val (.int p0), .val (.int p1), .val (.int p2), .val (.int p3), .val (.int p4), .val (.int (0 : Int32)), .val (.int d0), .val (.int d1), .val (.int d2), .val (.ref b4), .unset, .unset, .unset, .unset, .unset] [(.int (5 : Int32)), (.int p4), (.int (5 : Int32)), (.ref b4)])) (fun t k => ?_) ?_
    · show Steps p.tables e below (T14.setTop (mkF m 111 #[.val (.int p0), .val (.int p1), .val (.int p2), .val (.int p3), .val (.int p4), .val (.int (0 : Int32)), .val (.int d0), .val (.int d1), .val (.int d2), .val (.ref b4), .unset, .unset, .unset, .unset, .unset] [])) t
      refine XS.aload X14.here hx rfl (hb hby at_111) rfl rfl ?_
      refine XS.iconst X14.here hx rfl (hb hby at_113) ?_
      refine XS.iload X14.here hx rfl (hb hby at_114) rfl ?_
      refine XS.iconst X14.here hx rfl (hb hby at_116) ?_
      exact k
    obtain ⟨_, _, ⟨T15, L15, k15, n15⟩, -, X15, ⟨Lc15, hQ15, l15, y15, z15⟩, st15⟩ := Jvm.LawKit.callS X14 hx (y := (⟨"com/example/rollhaus/rollhaus/dice/FacesAmongPinLaw", "cnt", "(II)I"⟩ : MethodName)) hown (mvT hZ (hw _ (List.mem_of_getElem? (i := 1) rfl))) (mvT hZ (hw _ (List.mem_of_getElem? (i := 2) rfl))) (mvT hZ (hw _ (List.mem_of_getElem? (i := 3) rfl))) (mvT hZ (hw _ (List.mem_of_getElem? (i := 4) rfl))) (by decide) (backOf (W := 2) (rm1 l Z a0 hw [] p4 (5 : Int32)  h14 n0 (Nat.le_trans Z0 K14.1) ) hZ (hw _ (List.mem_of_getElem? (i := 4) rfl)) (hw _ (List.mem_of_getElem? (i := 3) rfl)) (by decide) (by decide)) (g := (mkF m 117 #[.val (.int p0), .val (.int p1), .val (.int p2), .val (.int p3), .val (.int p4), .val (.int (0 : Int32)), .val (.int d0), .val (.int d1), .val (.int d2), .val (.ref b4), .unset, .unset, .unset, .unset, .unset] [(.int (5 : Int32)), (.int p4), (.int (5 : Int32)), (.ref b4)])) rfl (by rw [hml]; rfl) (argsL := [(.int p4), (.int (5 : Int32))]) (rest := [(.int (5 : Int32)), (.ref b4)]) (lenOf pd0_0 rfl) rfl (by show 2 * 0 + _ ≤ _; exact Nat.le_of_eq rfl) (hb hby at_117) (fun _ _ => ⟨rfl, e14, (by decide : 1 + 0 ≤ _), (by decide : 7 + 0 ≤ _)⟩)
    dsimp only [Pt.U, Pt.locs, Pt.cells, Pt.slots] at X15 l15 y15 z15 st15 hQ15
    subst y15 z15
    have X15 : Stand p l e room_1 s m #[(.int p0), (.int p1), (.int p2), (.int p3), (.int p4)] below meth c T15 _ 1 7 := X15
    obtain ⟨rfl, N15q, e15⟩ := hQ15
    have N15 : Fr n0 L15 := by rw [l15]; exact Fr.app N14 N15q
    refine own_go (st15) ?_
    show own_Fin p.tables e below (T15.setTop (mkF m 120 #[.val (.int p0), .val (.int p1), .val (.int p2), .val (.int p3), .val (.int p4), .val (.int (0 : Int32)), .val (.int d0), .val (.int d1), .val (.int d2), .val (.ref b4), .unset, .unset, .unset, .unset, .unset] [(.int (own_cnt p4 (5 : Int32))), (.int (5 : Int32)), (.ref b4)])) _
    obtain ⟨cl16, Ar16, q16, S16, M16, Ha16, G16⟩ := id V14
    have hin16 : ¬ ((5 : Int32) < 0 ∨ cl16.slots.size ≤ ((5 : Int32)).toNatClampNeg) := inb_of S16 ⟨by decide, by decide⟩
    obtain ⟨T16, h16, X16, e16, W16, st16⟩ := stI X15 hx hZ e15 Ar16 (j := (5 : Int32)) hin16 (g := (mkF m 120 #[.val (.int p0), .val (.int p1), .val (.int p2), .val (.int p3), .val (.int p4), .val (.int (0 : Int32)), .val (.int d0), .val (.int d1), .val (.int d2), .val (.ref b4), .unset, .unset, .unset, .unset, .unset] [(.int (own_cnt p4 (5 : Int32))), (.int (5 : Int32)), (.ref b4)])) rfl rfl (hb hby at_120)
    have N16 := Fr.snoc X16 N15 g_b4
    have K16 : Keep h0 h16 [] := K14.wr W16 (Or.inr sz_b4)
    have V16 : Arv Z h16 b4 k4 .int (7 : Int32) [(.int (own_cnt p4 (0 : Int32))), (.int (own_cnt p4 (1 : Int32))), (.int (own_cnt p4 (2 : Int32))), (.int (own_cnt p4 (3 : Int32))), (.int (own_cnt p4 (4 : Int32))), (.int (own_cnt p4 (5 : Int32))), (.int (0 : Int32))] (.int (0 : Int32)) := Arv.set Ar16 q16 S16 M16 Ha16 G16 rfl W16 5 rfl (Nat.le_of_ble_eq_true rfl)
    refine own_go st16 ?_
    show own_Fin p.tables e below (T16.setTop (mkF m 121 #[.val (.int p0), .val (.int p1), .val (.int p2), .val (.int p3), .val (.int p4), .val (.int (0 : Int32)), .val (.int d0), .val (.int d1), .val (.int d2), .val (.ref b4), .unset, .unset, .unset, .unset, .unset] [])) _
    refine own_go (B := T16.setTop (mkF m 129 #[.val (.int p0), .val (.int p1), .val (.int p2), .val (.int p3), .val (.int p4), .val (.int (0 : Int32)), .val (.int d0), .val (.int d1), .val (.int d2), .val (.ref b4), .unset, .unset, .unset, .unset, .unset] [(.int (6 : Int32)), (.int p4), (.int (6 : Int32)), (.ref b4)])) (fun t k => ?_) ?_
    · show Steps p.tables e below (T16.setTop (mkF m 121 #[.val (.int p0), .val (.int p1), .val (.int p2), .val (.int p3), .val (.int p4), .val (.int (0 : Int32)), .val (.int d0), .val (.int d1), .val (.int d2), .val (.ref b4), .unset, .unset, .unset, .unset, .unset] [])) t
      refine XS.aload X16.here hx rfl (hb hby at_121) rfl rfl ?_
      refine XS.bipush X16.here hx rfl (hb hby at_123) ?_
      refine XS.iload X16.here hx rfl (hb hby at_125) rfl ?_
      refine XS.bipush X16.here hx rfl (hb hby at_127) ?_
      exact k
    obtain ⟨_, _, ⟨T17, L17, k17, n17⟩, -, X17, ⟨Lc17, hQ17, l17, y17, z17⟩, st17⟩ := Jvm.LawKit.callS X16 hx (y := (⟨"com/example/rollhaus/rollhaus/dice/FacesAmongPinLaw", "cnt", "(II)I"⟩ : MethodName)) hown (mvT hZ (hw _ (List.mem_of_getElem? (i := 1) rfl))) (mvT hZ (hw _ (List.mem_of_getElem? (i := 2) rfl))) (mvT hZ (hw _ (List.mem_of_getElem? (i := 3) rfl))) (mvT hZ (hw _ (List.mem_of_getElem? (i := 4) rfl))) (by decide) (backOf (W := 2) (rm1 l Z a0 hw [] p4 (6 : Int32)  h16 n0 (Nat.le_trans Z0 K16.1) ) hZ (hw _ (List.mem_of_getElem? (i := 4) rfl)) (hw _ (List.mem_of_getElem? (i := 3) rfl)) (by decide) (by decide)) (g := (mkF m 129 #[.val (.int p0), .val (.int p1), .val (.int p2), .val (.int p3), .val (.int p4), .val (.int (0 : Int32)), .val (.int d0), .val (.int d1), .val (.int d2), .val (.ref b4), .unset, .unset, .unset, .unset, .unset] [(.int (6 : Int32)), (.int p4), (.int (6 : Int32)), (.ref b4)])) rfl (by rw [hml]; rfl) (argsL := [(.int p4), (.int (6 : Int32))]) (rest := [(.int (6 : Int32)), (.ref b4)]) (lenOf pd0_0 rfl) rfl (by show 2 * 0 + _ ≤ _; exact Nat.le_of_eq rfl) (hb hby at_129) (fun _ _ => ⟨rfl, e16, (by decide : 1 + 0 ≤ _), (by decide : 7 + 0 ≤ _)⟩)
    dsimp only [Pt.U, Pt.locs, Pt.cells, Pt.slots] at X17 l17 y17 z17 st17 hQ17
    subst y17 z17
    have X17 : Stand p l e room_1 s m #[(.int p0), (.int p1), (.int p2), (.int p3), (.int p4)] below meth c T17 _ 1 7 := X17
    obtain ⟨rfl, N17q, e17⟩ := hQ17
    have N17 : Fr n0 L17 := by rw [l17]; exact Fr.app N16 N17q
    refine own_go (st17) ?_
    show own_Fin p.tables e below (T17.setTop (mkF m 132 #[.val (.int p0), .val (.int p1), .val (.int p2), .val (.int p3), .val (.int p4), .val (.int (0 : Int32)), .val (.int d0), .val (.int d1), .val (.int d2), .val (.ref b4), .unset, .unset, .unset, .unset, .unset] [(.int (own_cnt p4 (6 : Int32))), (.int (6 : Int32)), (.ref b4)])) _
    obtain ⟨cl18, Ar18, q18, S18, M18, Ha18, G18⟩ := id V16
    have hin18 : ¬ ((6 : Int32) < 0 ∨ cl18.slots.size ≤ ((6 : Int32)).toNatClampNeg) := inb_of S18 ⟨by decide, by decide⟩
    obtain ⟨T18, h18, X18, e18, W18, st18⟩ := stI X17 hx hZ e17 Ar18 (j := (6 : Int32)) hin18 (g := (mkF m 132 #[.val (.int p0), .val (.int p1), .val (.int p2), .val (.int p3), .val (.int p4), .val (.int (0 : Int32)), .val (.int d0), .val (.int d1), .val (.int d2), .val (.ref b4), .unset, .unset, .unset, .unset, .unset] [(.int (own_cnt p4 (6 : Int32))), (.int (6 : Int32)), (.ref b4)])) rfl rfl (hb hby at_132)
    have N18 := Fr.snoc X18 N17 g_b4
    have K18 : Keep h0 h18 [] := K16.wr W18 (Or.inr sz_b4)
    have V18 : Arv Z h18 b4 k4 .int (7 : Int32) [(.int (own_cnt p4 (0 : Int32))), (.int (own_cnt p4 (1 : Int32))), (.int (own_cnt p4 (2 : Int32))), (.int (own_cnt p4 (3 : Int32))), (.int (own_cnt p4 (4 : Int32))), (.int (own_cnt p4 (5 : Int32))), (.int (own_cnt p4 (6 : Int32)))] (.int (0 : Int32)) := Arv.set Ar18 q18 S18 M18 Ha18 G18 rfl W18 6 rfl (Nat.le_of_ble_eq_true rfl)
    refine own_go st18 ?_
    show own_Fin p.tables e below (T18.setTop (mkF m 133 #[.val (.int p0), .val (.int p1), .val (.int p2), .val (.int p3), .val (.int p4), .val (.int (0 : Int32)), .val (.int d0), .val (.int d1), .val (.int d2), .val (.ref b4), .unset, .unset, .unset, .unset, .unset] [])) _
    refine own_go (B := T18.setTop (mkF m 135 #[.val (.int p0), .val (.int p1), .val (.int p2), .val (.int p3), .val (.int p4), .val (.int (0 : Int32)), .val (.int d0), .val (.int d1), .val (.int d2), .val (.ref b4), .unset, .unset, .unset, .unset, .unset] [(.int (0 : Int32))])) (fun t k => ?_) ?_
    · show Steps p.tables e below (T18.setTop (mkF m 133 #[.val (.int p0), .val (.int p1), .val (.int p2), .val (.int p3), .val (.int p4), .val (.int (0 : Int32)), .val (.int d0), .val (.int d1), .val (.int d2), .val (.ref b4), .unset, .unset, .unset, .unset, .unset] [])) t
      refine XS.iload X18.here hx rfl (hb hby at_133) rfl ?_
      exact k
    obtain ⟨T19, h19, k19, X19, e19, E19, A19, EA19, st19⟩ := newPE X18 hx hZ (hw _ (List.mem_of_getElem? (i := 0) rfl)) e18 (g := (mkF m 135 #[.val (.int p0), .val (.int p1), .val (.int p2), .val (.int p3), .val (.int p4), .val (.int (0 : Int32)), .val (.int d0), .val (.int d1), .val (.int d2), .val (.ref b4), .unset, .unset, .unset, .unset, .unset] [(.int (0 : Int32))])) rfl (hb hby at_135) rfl (by decide) (cap := 0) (by decide) (by decide) (by decide) (by decide) (ad := "[I") (by decide)
    obtain ⟨b19, g19⟩ : ∃ z, z = h18.size := ⟨_, rfl⟩
    rw [← g19] at A19 EA19 st19
    have g_b19 : n0 ≤ b19 := by rw [g19]; exact (Nat.le_trans Z0 K18.1)
    have sz_b19 : h0.size ≤ b19 := by rw [g19]; exact K18.1
    have ne20 : b4 ≠ b19 := Nat.ne_of_lt (by rw [g19]; exact V18.lt)
    have K19 : Keep h0 h19 [] := K18.ext E19
    have X19 : Stand p l e room_1 s m #[(.int p0), (.int p1), (.int p2), (.int p3), (.int p4)] below meth c T19 _ 2 7 := X19
    have V_b19 : Arv Z h19 b19 k19 .int (0 : Int32) [] (.int (0 : Int32)) := (Arv.new A19 (by decide)).pad (pad_rep [] (.int (0 : Int32)) 0)
    refine own_go st19 ?_
    show own_Fin p.tables e below (T19.setTop (mkF m 137 #[.val (.int p0), .val (.int p1), .val (.int p2), .val (.int p3), .val (.int p4), .val (.int (0 : Int32)), .val (.int d0), .val (.int d1), .val (.int d2), .val (.ref b4), .unset, .unset, .unset, .unset, .unset] [(.ref b19)])) _
    refine own_go (B := T19.setTop (mkF m 178 #[.val (.int p0), .val (.int p1), .val (.int p2), .val (.int p3), .val (.int p4), .val (.int (0 : Int32)), .val (.int d0), .val (.int d1), .val (.int d2), .val (.ref b4), .val (.ref b19), .unset, .unset, .unset, .unset] [(.ref b4), (.ref b19)])) (fun t k => ?_) ?_
    · show Steps p.tables e below (T19.setTop (mkF m 137 #[.val (.int p0), .val (.int p1), .val (.int p2), .val (.int p3), .val (.int p4), .val (.int (0 : Int32)), .val (.int d0), .val (.int d1), .val (.int d2), .val (.ref b4), .unset, .unset, .unset, .unset, .unset] [(.ref b19)])) t
      refine XS.astore X19.here hx rfl (hb hby at_137) rfl rfl (l' := #[.val (.int p0), .val (.int p1), .val (.int p2), .val (.int p3), .val (.int p4), .val (.int (0 : Int32)), .val (.int d0), .val (.int d1), .val (.int d2), .val (.ref b4), .val (.ref b19), .unset, .unset, .unset, .unset]) rfl ?_
      refine XS.iload X19.here hx rfl (hb hby at_139) rfl ?_
      refine XS.ifYes X19.here hx rfl (pc0 := 141) (pc' := 150) rfl (hb hby at_141) rfl ((if0 _ _).trans (flt (by decide : ¬ ((0 : Int32) < (0 : Int32)))).2.2.2) (by decide) (by decide) ?_
      refine XS.iload X19.here hx rfl (hb hby at_150) rfl ?_
      show Steps p.tables e below (T19.setTop (mkF m 152 #[.val (.int p0), .val (.int p1), .val (.int p2), .val (.int p3), .val (.int p4), .val (.int (0 : Int32)), .val (.int d0), .val (.int d1), .val (.int d2), .val (.ref b4), .val (.ref b19), .unset, .unset, .unset, .unset] [(.int (0 : Int32))])) t
      refine XS.iconst X19.here hx rfl (hb hby at_152) ?_
      refine XS.icmpYes X19.here hx rfl (pc0 := 153) (pc' := 162) rfl (hb hby at_153) rfl (flt (by decide : ¬ ((1 : Int32) < (0 : Int32)))).2.2.2 (by decide) (by decide) ?_
      refine XS.iload X19.here hx rfl (hb hby at_162) rfl ?_
      refine XS.iconst X19.here hx rfl (hb hby at_164) ?_
      show Steps p.tables e below (T19.setTop (mkF m 165 #[.val (.int p0), .val (.int p1), .val (.int p2), .val (.int p3), .val (.int p4), .val (.int (0 : Int32)), .val (.int d0), .val (.int d1), .val (.int d2), .val (.ref b4), .val (.ref b19), .unset, .unset, .unset, .unset] [(.int (2 : Int32)), (.int (0 : Int32))])) t
      refine XS.icmpYes X19.here hx rfl (pc0 := 165) (pc' := 174) rfl (hb hby at_165) rfl (flt (by decide : ¬ ((2 : Int32) < (0 : Int32)))).2.2.2 (by decide) (by decide) ?_
      refine XS.aload X19.here hx rfl (hb hby at_174) rfl rfl ?_
      refine XS.aload X19.here hx rfl (hb hby at_176) rfl rfl ?_
      exact k
    have f22 := (V18.ext E19)
    have f23 := ((((((((EA4.wr W6).wr W8).wr W10).wr W12).wr W14).wr W16).wr W18).ext E19)
    obtain ⟨_, _, ⟨T21, L21, k21, n21⟩, -, X21, ⟨Lc21, hQ21, l21, y21, z21⟩, st21⟩ := Jvm.LawKit.callS X19 hx (y := (⟨"com/example/rollhaus/rollhaus/dice/Faces", "among", "([I[I)Z"⟩ : MethodName)) hown (mvT hZ (hw _ (List.mem_of_getElem? (i := 5) rfl))) (mvT hZ (hw _ (List.mem_of_getElem? (i := 6) rfl))) (mvT hZ (hw _ (List.mem_of_getElem? (i := 7) rfl))) (mvT hZ (hw _ (List.mem_of_getElem? (i := 8) rfl))) (by decide) (backOf (W := 0) (rm3 l Z a0 hw [] b19 b4 k19 k4 0 [] [(own_cnt p4 (0 : Int32)), (own_cnt p4 (1 : Int32)), (own_cnt p4 (2 : Int32)), (own_cnt p4 (3 : Int32)), (own_cnt p4 (4 : Int32)), (own_cnt p4 (5 : Int32)), (own_cnt p4 (6 : Int32))] h19 n0 (Nat.le_trans Z0 K19.1) V_b19 f22 f23 rfl (by decide) rfl) hZ (hw _ (List.mem_of_getElem? (i := 8) rfl)) (hw _ (List.mem_of_getElem? (i := 7) rfl)) (by decide) (by decide)) (g := (mkF m 178 #[.val (.int p0), .val (.int p1), .val (.int p2), .val (.int p3), .val (.int p4), .val (.int (0 : Int32)), .val (.int d0), .val (.int d1), .val (.int d2), .val (.ref b4), .val (.ref b19), .unset, .unset, .unset, .unset] [(.ref b4), (.ref b19)])) rfl (by rw [hml]; rfl) (argsL := [(.ref b19), (.ref b4)]) (rest := []) (lenOf pd0_1 rfl) rfl (by show 2 * 0 + _ ≤ _; exact Nat.le_of_eq rfl) (hb hby at_178) (fun _ _ => ⟨rfl, e19, (by decide : 2 + 1 ≤ _), (by decide : 7 + 7 ≤ _)⟩)
    dsimp only [Pt.U, Pt.locs, Pt.cells, Pt.slots] at X21 l21 y21 z21 st21 hQ21
    subst y21 z21
    have X21 : Stand p l e room_1 s m #[(.int p0), (.int p1), (.int p2), (.int p3), (.int p4)] below meth c T21 _ 3 14 := X21
    obtain ⟨rfl, N21q, Kq21⟩ := hQ21
    have N21 : Fr n0 L21 := by rw [l21]; exact Fr.app N18 N21q
    have K21 : Keep h0 T21.heap [] := K19.trans Kq21 all0
    refine own_go (st21) ?_
    show own_Fin p.tables e below (T21.setTop (mkF m 181 #[.val (.int p0), .val (.int p1), .val (.int p2), .val (.int p3), .val (.int p4), .val (.int (0 : Int32)), .val (.int d0), .val (.int d1), .val (.int d2), .val (.ref b4), .val (.ref b19), .unset, .unset, .unset, .unset] [(.int (own_am [] [(own_cnt p4 (0 : Int32)), (own_cnt p4 (1 : Int32)), (own_cnt p4 (2 : Int32)), (own_cnt p4 (3 : Int32)), (own_cnt p4 (4 : Int32)), (own_cnt p4 (5 : Int32)), (own_cnt p4 (6 : Int32))]))])) _
    refine own_go (B := T21.setTop (mkF m 194 #[.val (.int p0), .val (.int p1), .val (.int p2), .val (.int p3), .val (.int p4), .val (.int (0 : Int32)), .val (.int d0), .val (.int d1), .val (.int d2), .val (.ref b4), .val (.ref b19), .val (.int (own_am [] [(own_cnt p4 (0 : Int32)), (own_cnt p4 (1 : Int32)), (own_cnt p4 (2 : Int32)), (own_cnt p4 (3 : Int32)), (own_cnt p4 (4 : Int32)), (own_cnt p4 (5 : Int32)), (own_cnt p4 (6 : Int32))])), .unset, .unset, .unset] [(.int p4), (.int d2), (.int d1), (.int d0), (.int (0 : Int32)), (.int (0 : Int32))])) (fun t k => ?_) ?_
    · show Steps p.tables e below (T21.setTop (mkF m 181 #[.val (.int p0), .val (.int p1), .val (.int p2), .val (.int p3), .val (.int p4), .val (.int (0 : Int32)), .val (.int d0), .val (.int d1), .val (.int d2), .val (.ref b4), .val (.ref b19), .unset, .unset, .unset, .unset] [(.int (own_am [] [(own_cnt p4 (0 : Int32)), (own_cnt p4 (1 : Int32)), (own_cnt p4 (2 : Int32)), (own_cnt p4 (3 : Int32)), (own_cnt p4 (4 : Int32)), (own_cnt p4 (5 : Int32)), (own_cnt p4 (6 : Int32))]))])) t
      refine XS.istore X21.here hx rfl (hb hby at_181) rfl (l' := #[.val (.int p0), .val (.int p1), .val (.int p2), .val (.int p3), .val (.int p4), .val (.int (0 : Int32)), .val (.int d0), .val (.int d1), .val (.int d2), .val (.ref b4), .val (.ref b19), .val (.int (own_am [] [(own_cnt p4 (0 : Int32)), (own_cnt p4 (1 : Int32)), (own_cnt p4 (2 : Int32)), (own_cnt p4 (3 : Int32)), (own_cnt p4 (4 : Int32)), (own_cnt p4 (5 : Int32)), (own_cnt p4 (6 : Int32))])), .unset, .unset, .unset]) rfl ?_
      refine XS.iconst X21.here hx rfl (hb hby at_183) ?_
      refine XS.iload X21.here hx rfl (hb hby at_184) rfl ?_
      refine XS.iload X21.here hx rfl (hb hby at_186) rfl ?_
      show Steps p.tables e below (T21.setTop (mkF m 188 #[.val (.int p0), .val (.int p1), .val (.int p2), .val (.int p3), .val (.int p4), .val (.int (0 : Int32)), .val (.int d0), .val (.int d1), .val (.int d2), .val (.ref b4), .val (.ref b19), .val (.int (own_am [] [(own_cnt p4 (0 : Int32)), (own_cnt p4 (1 : Int32)), (own_cnt p4 (2 : Int32)), (own_cnt p4 (3 : Int32)), (own_cnt p4 (4 : Int32)), (own_cnt p4 (5 : Int32)), (own_cnt p4 (6 : Int32))])), .unset, .unset, .unset] [(.int d0), (.int (0 : Int32)), (.int (0 : Int32))])) t
      refine XS.iload X21.here hx rfl (hb hby at_188) rfl ?_
      refine XS.iload X21.here hx rfl (hb hby at_190) rfl ?_
      refine XS.iload X21.here hx rfl (hb hby at_192) rfl ?_
      exact k
    obtain ⟨_, _, ⟨T24, L24, k24, n24⟩, -, X24, ⟨Lc24, hQ24, l24, y24, z24⟩, st24⟩ := Jvm.LawKit.callS X21 hx (y := (⟨"com/example/rollhaus/rollhaus/dice/FacesAmongPinLaw", "fits", "(IIIIII)Z"⟩ : MethodName)) hown (mvT hZ (hw _ (List.mem_of_getElem? (i := 18) rfl))) (mvT hZ (hw _ (List.mem_of_getElem? (i := 19) rfl))) (mvT hZ (hw _ (List.mem_of_getElem? (i := 3) rfl))) (mvT hZ (hw _ (List.mem_of_getElem? (i := 20) rfl))) (by decide) (backOf (W := 0) (rm2 l Z a0 hw [] (0 : Int32) (0 : Int32) d0 d1 d2 p4  T21.heap n0 (Nat.le_trans Z0 K21.1) ) hZ (hw _ (List.mem_of_getElem? (i := 20) rfl)) (hw _ (List.mem_of_getElem? (i := 3) rfl)) (by decide) (by decide)) (g := (mkF m 194 #[.val (.int p0), .val (.int p1), .val (.int p2), .val (.int p3), .val (.int p4), .val (.int (0 : Int32)), .val (.int d0), .val (.int d1), .val (.int d2), .val (.ref b4), .val (.ref b19), .val (.int (own_am [] [(own_cnt p4 (0 : Int32)), (own_cnt p4 (1 : Int32)), (own_cnt p4 (2 : Int32)), (own_cnt p4 (3 : Int32)), (own_cnt p4 (4 : Int32)), (own_cnt p4 (5 : Int32)), (own_cnt p4 (6 : Int32))])), .unset, .unset, .unset] [(.int p4), (.int d2), (.int d1), (.int d0), (.int (0 : Int32)), (.int (0 : Int32))])) rfl (by rw [hml]; rfl) (argsL := [(.int (0 : Int32)), (.int (0 : Int32)), (.int d0), (.int d1), (.int d2), (.int p4)]) (rest := []) (lenOf pd0_2 rfl) rfl (by show 2 * 0 + _ ≤ _; exact Nat.le_of_eq rfl) (hb hby at_194) (fun _ _ => ⟨rfl, rfl, (by decide : 3 + 0 ≤ _), (by decide : 14 + 0 ≤ _)⟩)
    dsimp only [Pt.U, Pt.locs, Pt.cells, Pt.slots] at X24 l24 y24 z24 st24 hQ24
    subst y24 z24
    have X24 : Stand p l e room_1 s m #[(.int p0), (.int p1), (.int p2), (.int p3), (.int p4)] below meth c T24 _ 3 14 := X24
    obtain ⟨rfl, N24q, e24⟩ := hQ24
    have N24 : Fr n0 L24 := by rw [l24]; exact Fr.app N21 N24q
    refine own_go (st24) ?_
    show own_Fin p.tables e below (T24.setTop (mkF m 197 #[.val (.int p0), .val (.int p1), .val (.int p2), .val (.int p3), .val (.int p4), .val (.int (0 : Int32)), .val (.int d0), .val (.int d1), .val (.int d2), .val (.ref b4), .val (.ref b19), .val (.int (own_am [] [(own_cnt p4 (0 : Int32)), (own_cnt p4 (1 : Int32)), (own_cnt p4 (2 : Int32)), (own_cnt p4 (3 : Int32)), (own_cnt p4 (4 : Int32)), (own_cnt p4 (5 : Int32)), (own_cnt p4 (6 : Int32))])), .unset, .unset, .unset] [(.int (own_fits (0 : Int32) (0 : Int32) d0 d1 d2 p4))])) _
    have joinJ : ∀ (TJ : State) (locsJ : List Loc) (XJ : Stand p l e room_1 s m #[(.int p0), (.int p1), (.int p2), (.int p3), (.int p4)] below meth c TJ locsJ 3 14) (eJ : TJ.heap = T21.heap) (NJ : Fr n0 locsJ) (ex : Int32) (hex : (own_am [] [(own_cnt p4 (0 : Int32)), (own_cnt p4 (1 : Int32)), (own_cnt p4 (2 : Int32)), (own_cnt p4 (3 : Int32)), (own_cnt p4 (4 : Int32)), (own_cnt p4 (5 : Int32)), (own_cnt p4 (6 : Int32))]) = ex), own_Fin p.tables e below (TJ.setTop (mkF m 239 #[.val (.int p0), .val (.int p1), .val (.int p2), .val (.int p3), .val (.int p4), .val (.int (0 : Int32)), .val (.int d0), .val (.int d1), .val (.int d2), .val (.ref b4), .val (.ref b19), .val (.int (own_am [] [(own_cnt p4 (0 : Int32)), (own_cnt p4 (1 : Int32)), (own_cnt p4 (2 : Int32)), (own_cnt p4 (3 : Int32)), (own_cnt p4 (4 : Int32)), (own_cnt p4 (5 : Int32)), (own_cnt p4 (6 : Int32))])), .unset, .unset, .unset] [(.int ex)])) (fun s₂ o => s₂.status = .running ∧ Ended s₂ below o ∧ ∃ v L, o = .returned v ∧ Q0 Z p0 p1 p2 p3 p4 h0 n0 v s₂.heap L ∧ FrameEnd s o s₂ L room_1.cells room_1.slots) := by
      intro TJ locsJ XJ eJ NJ ex hex
      refine own_go (B := TJ.setTop (mkF m 244 #[.val (.int p0), .val (.int p1), .val (.int p2), .val (.int p3), .val (.int p4), .val (.int (0 : Int32)), .val (.int d0), .val (.int d1), .val (.int d2), .val (.ref b4), .val (.ref b19), .val (.int (own_am [] [(own_cnt p4 (0 : Int32)), (own_cnt p4 (1 : Int32)), (own_cnt p4 (2 : Int32)), (own_cnt p4 (3 : Int32)), (own_cnt p4 (4 : Int32)), (own_cnt p4 (5 : Int32)), (own_cnt p4 (6 : Int32))])), .val (.int ex), .unset, .unset] [(.int (0 : Int32)), (.ref b4)])) (fun t k => ?_) ?_
      · show Steps p.tables e below (TJ.setTop (mkF m 239 #[.val (.int p0), .val (.int p1), .val (.int p2), .val (.int p3), .val (.int p4), .val (.int (0 : Int32)), .val (.int d0), .val (.int d1), .val (.int d2), .val (.ref b4), .val (.ref b19), .val (.int (own_am [] [(own_cnt p4 (0 : Int32)), (own_cnt p4 (1 : Int32)), (own_cnt p4 (2 : Int32)), (own_cnt p4 (3 : Int32)), (own_cnt p4 (4 : Int32)), (own_cnt p4 (5 : Int32)), (own_cnt p4 (6 : Int32))])), .unset, .unset, .unset] [(.int ex)])) t
        refine XS.istore XJ.here hx rfl (hb hby at_239) rfl (l' := #[.val (.int p0), .val (.int p1), .val (.int p2), .val (.int p3), .val (.int p4), .val (.int (0 : Int32)), .val (.int d0), .val (.int d1), .val (.int d2), .val (.ref b4), .val (.ref b19), .val (.int (own_am [] [(own_cnt p4 (0 : Int32)), (own_cnt p4 (1 : Int32)), (own_cnt p4 (2 : Int32)), (own_cnt p4 (3 : Int32)), (own_cnt p4 (4 : Int32)), (own_cnt p4 (5 : Int32)), (own_cnt p4 (6 : Int32))])), .val (.int ex), .unset, .unset]) rfl ?_
        refine XS.aload XJ.here hx rfl (hb hby at_241) rfl rfl ?_
        refine XS.iconst XJ.here hx rfl (hb hby at_243) ?_
        exact k
      have f26 := (f22.keep Kq21 nin0)
      obtain ⟨cl25, Ar25, -, S25, M25, Ha25, G25⟩ := id f26
      have hin25 : ¬ ((0 : Int32) < 0 ∨ cl25.slots.size ≤ ((0 : Int32)).toNatClampNeg) := inb_of S25 ⟨by decide, by decide⟩
      have hat25 : cl25.slots[((0 : Int32)).toNatClampNeg]? = some (.int (own_cnt p4 (0 : Int32))) := Has.at Ha25 hin25 rfl
      refine own_go (B := TJ.setTop (mkF m 245 #[.val (.int p0), .val (.int p1), .val (.int p2), .val (.int p3), .val (.int p4), .val (.int (0 : Int32)), .val (.int d0), .val (.int d1), .val (.int d2), .val (.ref b4), .val (.ref b19), .val (.int (own_am [] [(own_cnt p4 (0 : Int32)), (own_cnt p4 (1 : Int32)), (own_cnt p4 (2 : Int32)), (own_cnt p4 (3 : Int32)), (own_cnt p4 (4 : Int32)), (own_cnt p4 (5 : Int32)), (own_cnt p4 (6 : Int32))])), .val (.int ex), .unset, .unset] [(.int (own_cnt p4 (0 : Int32)))])) (fun t k => ?_) ?_
      · exact XJ.iaload hx (j := (0 : Int32)) (v := (.int (own_cnt p4 (0 : Int32)))) (by rw [eJ]; exact Ar25.1) (State.isArrayOf_alike hZ.alike Ar25.2.1) Ar25.2.2 hin25 hat25 (g := (mkF m 244 #[.val (.int p0), .val (.int p1), .val (.int p2), .val (.int p3), .val (.int p4), .val (.int (0 : Int32)), .val (.int d0), .val (.int d1), .val (.int d2), .val (.ref b4), .val (.ref b19), .val (.int (own_am [] [(own_cnt p4 (0 : Int32)), (own_cnt p4 (1 : Int32)), (own_cnt p4 (2 : Int32)), (own_cnt p4 (3 : Int32)), (own_cnt p4 (4 : Int32)), (own_cnt p4 (5 : Int32)), (own_cnt p4 (6 : Int32))])), .val (.int ex), .unset, .unset] [(.int (0 : Int32)), (.ref b4)])) rfl rfl (hb hby at_244) _ k
      refine own_go (B := TJ.setTop (mkF m 248 #[.val (.int p0), .val (.int p1), .val (.int p2), .val (.int p3), .val (.int p4), .val (.int (0 : Int32)), .val (.int d0), .val (.int d1), .val (.int d2), .val (.ref b4), .val (.ref b19), .val (.int (own_am [] [(own_cnt p4 (0 : Int32)), (own_cnt p4 (1 : Int32)), (own_cnt p4 (2 : Int32)), (own_cnt p4 (3 : Int32)), (own_cnt p4 (4 : Int32)), (own_cnt p4 (5 : Int32)), (own_cnt p4 (6 : Int32))])), .val (.int ex), .unset, .unset] [(.int (0 : Int32)), (.int p4), (.int (own_cnt p4 (0 : Int32)))])) (fun t k => ?_) ?_
      · show Steps p.tables e below (TJ.setTop (mkF m 245 #[.val (.int p0), .val (.int p1), .val (.int p2), .val (.int p3), .val (.int p4), .val (.int (0 : Int32)), .val (.int d0), .val (.int d1), .val (.int d2), .val (.ref b4), .val (.ref b19), .val (.int (own_am [] [(own_cnt p4 (0 : Int32)), (own_cnt p4 (1 : Int32)), (own_cnt p4 (2 : Int32)), (own_cnt p4 (3 : Int32)), (own_cnt p4 (4 : Int32)), (own_cnt p4 (5 : Int32)), (own_cnt p4 (6 : Int32))])), .val (.int ex), .unset, .unset] [(.int (own_cnt p4 (0 : Int32)))])) t
        refine XS.iload XJ.here hx rfl (hb hby at_245) rfl ?_
        refine XS.iconst XJ.here hx rfl (hb hby at_247) ?_
        exact k
      obtain ⟨_, _, ⟨T27, L27, k27, n27⟩, -, X27, ⟨Lc27, hQ27, l27, y27, z27⟩, st27⟩ := Jvm.LawKit.callS XJ hx (y := (⟨"com/example/rollhaus/rollhaus/dice/FacesAmongPinLaw", "cnt", "(II)I"⟩ : MethodName)) hown (mvT hZ (hw _ (List.mem_of_getElem? (i := 1) rfl))) (mvT hZ (hw _ (List.mem_of_getElem? (i := 2) rfl))) (mvT hZ (hw _ (List.mem_of_getElem? (i := 3) rfl))) (mvT hZ (hw _ (List.mem_of_getElem? (i := 4) rfl))) (by decide) (backOf (W := 1) (rm1 l Z a0 hw [] p4 (0 : Int32)  T21.heap n0 (Nat.le_trans Z0 K21.1) ) hZ (hw _ (List.mem_of_getElem? (i := 4) rfl)) (hw _ (List.mem_of_getElem? (i := 3) rfl)) (by decide) (by decide)) (g := (mkF m 248 #[.val (.int p0), .val (.int p1), .val (.int p2), .val (.int p3), .val (.int p4), .val (.int (0 : Int32)), .val (.int d0), .val (.int d1), .val (.int d2), .val (.ref b4), .val (.ref b19), .val (.int (own_am [] [(own_cnt p4 (0 : Int32)), (own_cnt p4 (1 : Int32)), (own_cnt p4 (2 : Int32)), (own_cnt p4 (3 : Int32)), (own_cnt p4 (4 : Int32)), (own_cnt p4 (5 : Int32)), (own_cnt p4 (6 : Int32))])), .val (.int ex), .unset, .unset] [(.int (0 : Int32)), (.int p4), (.int (own_cnt p4 (0 : Int32)))])) rfl (by rw [hml]; rfl) (argsL := [(.int p4), (.int (0 : Int32))]) (rest := [(.int (own_cnt p4 (0 : Int32)))]) (lenOf pd0_0 rfl) rfl (by show 2 * 0 + _ ≤ _; exact Nat.le_of_eq rfl) (hb hby at_248) (fun _ _ => ⟨rfl, eJ, (by decide : 3 + 0 ≤ _), (by decide : 14 + 0 ≤ _)⟩)
      dsimp only [Pt.U, Pt.locs, Pt.cells, Pt.slots] at X27 l27 y27 z27 st27 hQ27
      subst y27 z27
      have X27 : Stand p l e room_1 s m #[(.int p0), (.int p1), (.int p2), (.int p3), (.int p4)] below meth c T27 _ 3 14 := X27
      obtain ⟨rfl, N27q, e27⟩ := hQ27
      have N27 : Fr n0 L27 := by rw [l27]; exact Fr.app NJ N27q
      refine own_go (st27) ?_
      show own_Fin p.tables e below (T27.setTop (mkF m 251 #[.val (.int p0), .val (.int p1), .val (.int p2), .val (.int p3), .val (.int p4), .val (.int (0 : Int32)), .val (.int d0), .val (.int d1), .val (.int d2), .val (.ref b4), .val (.ref b19), .val (.int (own_am [] [(own_cnt p4 (0 : Int32)), (own_cnt p4 (1 : Int32)), (own_cnt p4 (2 : Int32)), (own_cnt p4 (3 : Int32)), (own_cnt p4 (4 : Int32)), (own_cnt p4 (5 : Int32)), (own_cnt p4 (6 : Int32))])), .val (.int ex), .unset, .unset] [(.int (own_cnt p4 (0 : Int32))), (.int (own_cnt p4 (0 : Int32)))])) _
      refine own_go (B := T27.setTop (mkF m 257 #[.val (.int p0), .val (.int p1), .val (.int p2), .val (.int p3), .val (.int p4), .val (.int (0 : Int32)), .val (.int d0), .val (.int d1), .val (.int d2), .val (.ref b4), .val (.ref b19), .val (.int (own_am [] [(own_cnt p4 (0 : Int32)), (own_cnt p4 (1 : Int32)), (own_cnt p4 (2 : Int32)), (own_cnt p4 (3 : Int32)), (own_cnt p4 (4 : Int32)), (own_cnt p4 (5 : Int32)), (own_cnt p4 (6 : Int32))])), .val (.int ex), .unset, .unset] [(.int (1 : Int32)), (.ref b4)])) (fun t k => ?_) ?_
      · show Steps p.tables e below (T27.setTop (mkF m 251 #[.val (.int p0), .val (.int p1), .val (.int p2), .val (.int p3), .val (.int p4), .val (.int (0 : Int32)), .val (.int d0), .val (.int d1), .val (.int d2), .val (.ref b4), .val (.ref b19), .val (.int (own_am [] [(own_cnt p4 (0 : Int32)), (own_cnt p4 (1 : Int32)), (own_cnt p4 (2 : Int32)), (own_cnt p4 (3 : Int32)), (own_cnt p4 (4 : Int32)), (own_cnt p4 (5 : Int32)), (own_cnt p4 (6 : Int32))])), .val (.int ex), .unset, .unset] [(.int (own_cnt p4 (0 : Int32))), (.int (own_cnt p4 (0 : Int32)))])) t
        refine XS.icmpNo X27.here hx rfl (hb hby at_251) rfl (teq (rfl : (own_cnt p4 (0 : Int32)) = (own_cnt p4 (0 : Int32)))).2 ?_
        refine XS.aload X27.here hx rfl (hb hby at_254) rfl rfl ?_
        refine XS.iconst X27.here hx rfl (hb hby at_256) ?_
        exact k
      obtain ⟨cl28, Ar28, -, S28, M28, Ha28, G28⟩ := id f26
      have hin28 : ¬ ((1 : Int32) < 0 ∨ cl28.slots.size ≤ ((1 : Int32)).toNatClampNeg) := inb_of S28 ⟨by decide, by decide⟩
      have hat28 : cl28.slots[((1 : Int32)).toNatClampNeg]? = some (.int (own_cnt p4 (1 : Int32))) := Has.at Ha28 hin28 rfl
      refine own_go (B := T27.setTop (mkF m 258 #[.val (.int p0), .val (.int p1), .val (.int p2), .val (.int p3), .val (.int p4), .val (.int (0 : Int32)), .val (.int d0), .val (.int d1), .val (.int d2), .val (.ref b4), .val (.ref b19), .val (.int (own_am [] [(own_cnt p4 (0 : Int32)), (own_cnt p4 (1 : Int32)), (own_cnt p4 (2 : Int32)), (own_cnt p4 (3 : Int32)), (own_cnt p4 (4 : Int32)), (own_cnt p4 (5 : Int32)), (own_cnt p4 (6 : Int32))])), .val (.int ex), .unset, .unset] [(.int (own_cnt p4 (1 : Int32)))])) (fun t k => ?_) ?_
      · exact X27.iaload hx (j := (1 : Int32)) (v := (.int (own_cnt p4 (1 : Int32)))) (by rw [e27]; exact Ar28.1) (State.isArrayOf_alike hZ.alike Ar28.2.1) Ar28.2.2 hin28 hat28 (g := (mkF m 257 #[.val (.int p0), .val (.int p1), .val (.int p2), .val (.int p3), .val (.int p4), .val (.int (0 : Int32)), .val (.int d0), .val (.int d1), .val (.int d2), .val (.ref b4), .val (.ref b19), .val (.int (own_am [] [(own_cnt p4 (0 : Int32)), (own_cnt p4 (1 : Int32)), (own_cnt p4 (2 : Int32)), (own_cnt p4 (3 : Int32)), (own_cnt p4 (4 : Int32)), (own_cnt p4 (5 : Int32)), (own_cnt p4 (6 : Int32))])), .val (.int ex), .unset, .unset] [(.int (1 : Int32)), (.ref b4)])) rfl rfl (hb hby at_257) _ k
      refine own_go (B := T27.setTop (mkF m 261 #[.val (.int p0), .val (.int p1), .val (.int p2), .val (.int p3), .val (.int p4), .val (.int (0 : Int32)), .val (.int d0), .val (.int d1), .val (.int d2), .val (.ref b4), .val (.ref b19), .val (.int (own_am [] [(own_cnt p4 (0 : Int32)), (own_cnt p4 (1 : Int32)), (own_cnt p4 (2 : Int32)), (own_cnt p4 (3 : Int32)), (own_cnt p4 (4 : Int32)), (own_cnt p4 (5 : Int32)), (own_cnt p4 (6 : Int32))])), .val (.int ex), .unset, .unset] [(.int (1 : Int32)), (.int p4), (.int (own_cnt p4 (1 : Int32)))])) (fun t k => ?_) ?_
      · show Steps p.tables e below (T27.setTop (mkF m 258 #[.val (.int p0), .val (.int p1), .val (.int p2), .val (.int p3), .val (.int p4), .val (.int (0 : Int32)), .val (.int d0), .val (.int d1), .val (.int d2), .val (.ref b4), .val (.ref b19), .val (.int (own_am [] [(own_cnt p4 (0 : Int32)), (own_cnt p4 (1 : Int32)), (own_cnt p4 (2 : Int32)), (own_cnt p4 (3 : Int32)), (own_cnt p4 (4 : Int32)), (own_cnt p4 (5 : Int32)), (own_cnt p4 (6 : Int32))])), .val (.int ex), .unset, .unset] [(.int (own_cnt p4 (1 : Int32)))])) t
        refine XS.iload X27.here hx rfl (hb hby at_258) rfl ?_
        refine XS.iconst X27.here hx rfl (hb hby at_260) ?_
        exact k
      obtain ⟨_, _, ⟨T29, L29, k29, n29⟩, -, X29, ⟨Lc29, hQ29, l29, y29, z29⟩, st29⟩ := Jvm.LawKit.callS X27 hx (y := (⟨"com/example/rollhaus/rollhaus/dice/FacesAmongPinLaw", "cnt", "(II)I"⟩ : MethodName)) hown (mvT hZ (hw _ (List.mem_of_getElem? (i := 1) rfl))) (mvT hZ (hw _ (List.mem_of_getElem? (i := 2) rfl))) (mvT hZ (hw _ (List.mem_of_getElem? (i := 3) rfl))) (mvT hZ (hw _ (List.mem_of_getElem? (i := 4) rfl))) (by decide) (backOf (W := 1) (rm1 l Z a0 hw [] p4 (1 : Int32)  T21.heap n0 (Nat.le_trans Z0 K21.1) ) hZ (hw _ (List.mem_of_getElem? (i := 4) rfl)) (hw _ (List.mem_of_getElem? (i := 3) rfl)) (by decide) (by decide)) (g := (mkF m 261 #[.val (.int p0), .val (.int p1), .val (.int p2), .val (.int p3), .val (.int p4), .val (.int (0 : Int32)), .val (.int d0), .val (.int d1), .val (.int d2), .val (.ref b4), .val (.ref b19), .val (.int (own_am [] [(own_cnt p4 (0 : Int32)), (own_cnt p4 (1 : Int32)), (own_cnt p4 (2 : Int32)), (own_cnt p4 (3 : Int32)), (own_cnt p4 (4 : Int32)), (own_cnt p4 (5 : Int32)), (own_cnt p4 (6 : Int32))])), .val (.int ex), .unset, .unset] [(.int (1 : Int32)), (.int p4), (.int (own_cnt p4 (1 : Int32)))])) rfl (by rw [hml]; rfl) (argsL := [(.int p4), (.int (1 : Int32))]) (rest := [(.int (own_cnt p4 (1 : Int32)))]) (lenOf pd0_0 rfl) rfl (by show 2 * 0 + _ ≤ _; exact Nat.le_of_eq rfl) (hb hby at_261) (fun _ _ => ⟨rfl, e27, (by decide : 3 + 0 ≤ _), (by decide : 14 + 0 ≤ _)⟩)
      dsimp only [Pt.U, Pt.locs, Pt.cells, Pt.slots] at X29 l29 y29 z29 st29 hQ29
      subst y29 z29
      have X29 : Stand p l e room_1 s m #[(.int p0), (.int p1), (.int p2), (.int p3), (.int p4)] below meth c T29 _ 3 14 := X29
      obtain ⟨rfl, N29q, e29⟩ := hQ29
      have N29 : Fr n0 L29 := by rw [l29]; exact Fr.app N27 N29q
      refine own_go (st29) ?_
      show own_Fin p.tables e below (T29.setTop (mkF m 264 #[.val (.int p0), .val (.int p1), .val (.int p2), .val (.int p3), .val (.int p4), .val (.int (0 : Int32)), .val (.int d0), .val (.int d1), .val (.int d2), .val (.ref b4), .val (.ref b19), .val (.int (own_am [] [(own_cnt p4 (0 : Int32)), (own_cnt p4 (1 : Int32)), (own_cnt p4 (2 : Int32)), (own_cnt p4 (3 : Int32)), (own_cnt p4 (4 : Int32)), (own_cnt p4 (5 : Int32)), (own_cnt p4 (6 : Int32))])), .val (.int ex), .unset, .unset] [(.int (own_cnt p4 (1 : Int32))), (.int (own_cnt p4 (1 : Int32)))])) _
      refine own_go (B := T29.setTop (mkF m 270 #[.val (.int p0), .val (.int p1), .val (.int p2), .val (.int p3), .val (.int p4), .val (.int (0 : Int32)), .val (.int d0), .val (.int d1), .val (.int d2), .val (.ref b4), .val (.ref b19), .val (.int (own_am [] [(own_cnt p4 (0 : Int32)), (own_cnt p4 (1 : Int32)), (own_cnt p4 (2 : Int32)), (own_cnt p4 (3 : Int32)), (own_cnt p4 (4 : Int32)), (own_cnt p4 (5 : Int32)), (own_cnt p4 (6 : Int32))])), .val (.int ex), .unset, .unset] [(.int (2 : Int32)), (.ref b4)])) (fun t k => ?_) ?_
      · show Steps p.tables e below (T29.setTop (mkF m 264 #[.val (.int p0), .val (.int p1), .val (.int p2), .val (.int p3), .val (.int p4), .val (.int (0 : Int32)), .val (.int d0), .val (.int d1), .val (.int d2), .val (.ref b4), .val (.ref b19), .val (.int (own_am [] [(own_cnt p4 (0 : Int32)), (own_cnt p4 (1 : Int32)), (own_cnt p4 (2 : Int32)), (own_cnt p4 (3 : Int32)), (own_cnt p4 (4 : Int32)), (own_cnt p4 (5 : Int32)), (own_cnt p4 (6 : Int32))])), .val (.int ex), .unset, .unset] [(.int (own_cnt p4 (1 : Int32))), (.int (own_cnt p4 (1 : Int32)))])) t
        refine XS.icmpNo X29.here hx rfl (hb hby at_264) rfl (teq (rfl : (own_cnt p4 (1 : Int32)) = (own_cnt p4 (1 : Int32)))).2 ?_
        refine XS.aload X29.here hx rfl (hb hby at_267) rfl rfl ?_
        refine XS.iconst X29.here hx rfl (hb hby at_269) ?_
        exact k
      obtain ⟨cl30, Ar30, -, S30, M30, Ha30, G30⟩ := id f26
      have hin30 : ¬ ((2 : Int32) < 0 ∨ cl30.slots.size ≤ ((2 : Int32)).toNatClampNeg) := inb_of S30 ⟨by decide, by decide⟩
      have hat30 : cl30.slots[((2 : Int32)).toNatClampNeg]? = some (.int (own_cnt p4 (2 : Int32))) := Has.at Ha30 hin30 rfl
      refine own_go (B := T29.setTop (mkF m 271 #[.val (.int p0), .val (.int p1), .val (.int p2), .val (.int p3), .val (.int p4), .val (.int (0 : Int32)), .val (.int d0), .val (.int d1), .val (.int d2), .val (.ref b4), .val (.ref b19), .val (.int (own_am [] [(own_cnt p4 (0 : Int32)), (own_cnt p4 (1 : Int32)), (own_cnt p4 (2 : Int32)), (own_cnt p4 (3 : Int32)), (own_cnt p4 (4 : Int32)), (own_cnt p4 (5 : Int32)), (own_cnt p4 (6 : Int32))])), .val (.int ex), .unset, .unset] [(.int (own_cnt p4 (2 : Int32)))])) (fun t k => ?_) ?_
      · exact X29.iaload hx (j := (2 : Int32)) (v := (.int (own_cnt p4 (2 : Int32)))) (by rw [e29]; exact Ar30.1) (State.isArrayOf_alike hZ.alike Ar30.2.1) Ar30.2.2 hin30 hat30 (g := (mkF m 270 #[.val (.int p0), .val (.int p1), .val (.int p2), .val (.int p3), .val (.int p4), .val (.int (0 : Int32)), .val (.int d0), .val (.int d1), .val (.int d2), .val (.ref b4), .val (.ref b19), .val (.int (own_am [] [(own_cnt p4 (0 : Int32)), (own_cnt p4 (1 : Int32)), (own_cnt p4 (2 : Int32)), (own_cnt p4 (3 : Int32)), (own_cnt p4 (4 : Int32)), (own_cnt p4 (5 : Int32)), (own_cnt p4 (6 : Int32))])), .val (.int ex), .unset, .unset] [(.int (2 : Int32)), (.ref b4)])) rfl rfl (hb hby at_270) _ k
      refine own_go (B := T29.setTop (mkF m 274 #[.val (.int p0), .val (.int p1), .val (.int p2), .val (.int p3), .val (.int p4), .val (.int (0 : Int32)), .val (.int d0), .val (.int d1), .val (.int d2), .val (.ref b4), .val (.ref b19), .val (.int (own_am [] [(own_cnt p4 (0 : Int32)), (own_cnt p4 (1 : Int32)), (own_cnt p4 (2 : Int32)), (own_cnt p4 (3 : Int32)), (own_cnt p4 (4 : Int32)), (own_cnt p4 (5 : Int32)), (own_cnt p4 (6 : Int32))])), .val (.int ex), .unset, .unset] [(.int (2 : Int32)), (.int p4), (.int (own_cnt p4 (2 : Int32)))])) (fun t k => ?_) ?_
      · show Steps p.tables e below (T29.setTop (mkF m 271 #[.val (.int p0), .val (.int p1), .val (.int p2), .val (.int p3), .val (.int p4), .val (.int (0 : Int32)), .val (.int d0), .val (.int d1), .val (.int d2), .val (.ref b4), .val (.ref b19), .val (.int (own_am [] [(own_cnt p4 (0 : Int32)), (own_cnt p4 (1 : Int32)), (own_cnt p4 (2 : Int32)), (own_cnt p4 (3 : Int32)), (own_cnt p4 (4 : Int32)), (own_cnt p4 (5 : Int32)), (own_cnt p4 (6 : Int32))])), .val (.int ex), .unset, .unset] [(.int (own_cnt p4 (2 : Int32)))])) t
        refine XS.iload X29.here hx rfl (hb hby at_271) rfl ?_
        refine XS.iconst X29.here hx rfl (hb hby at_273) ?_
        exact k
      obtain ⟨_, _, ⟨T31, L31, k31, n31⟩, -, X31, ⟨Lc31, hQ31, l31, y31, z31⟩, st31⟩ := Jvm.LawKit.callS X29 hx (y := (⟨"com/example/rollhaus/rollhaus/dice/FacesAmongPinLaw", "cnt", "(II)I"⟩ : MethodName)) hown (mvT hZ (hw _ (List.mem_of_getElem? (i := 1) rfl))) (mvT hZ (hw _ (List.mem_of_getElem? (i := 2) rfl))) (mvT hZ (hw _ (List.mem_of_getElem? (i := 3) rfl))) (mvT hZ (hw _ (List.mem_of_getElem? (i := 4) rfl))) (by decide) (backOf (W := 1) (rm1 l Z a0 hw [] p4 (2 : Int32)  T21.heap n0 (Nat.le_trans Z0 K21.1) ) hZ (hw _ (List.mem_of_getElem? (i := 4) rfl)) (hw _ (List.mem_of_getElem? (i := 3) rfl)) (by decide) (by decide)) (g := (mkF m 274 #[.val (.int p0), .val (.int p1), .val (.int p2), .val (.int p3), .val (.int p4), .val (.int (0 : Int32)), .val (.int d0), .val (.int d1), .val (.int d2), .val (.ref b4), .val (.ref b19), .val (.int (own_am [] [(own_cnt p4 (0 : Int32)), (own_cnt p4 (1 : Int32)), (own_cnt p4 (2 : Int32)), (own_cnt p4 (3 : Int32)), (own_cnt p4 (4 : Int32)), (own_cnt p4 (5 : Int32)), (own_cnt p4 (6 : Int32))])), .val (.int ex), .unset, .unset] [(.int (2 : Int32)), (.int p4), (.int (own_cnt p4 (2 : Int32)))])) rfl (by rw [hml]; rfl) (argsL := [(.int p4), (.int (2 : Int32))]) (rest := [(.int (own_cnt p4 (2 : Int32)))]) (lenOf pd0_0 rfl) rfl (by show 2 * 0 + _ ≤ _; exact Nat.le_of_eq rfl) (hb hby at_274) (fun _ _ => ⟨rfl, e29, (by decide : 3 + 0 ≤ _), (by decide : 14 + 0 ≤ _)⟩)
      dsimp only [Pt.U, Pt.locs, Pt.cells, Pt.slots] at X31 l31 y31 z31 st31 hQ31
      subst y31 z31
      have X31 : Stand p l e room_1 s m #[(.int p0), (.int p1), (.int p2), (.int p3), (.int p4)] below meth c T31 _ 3 14 := X31
      obtain ⟨rfl, N31q, e31⟩ := hQ31
      have N31 : Fr n0 L31 := by rw [l31]; exact Fr.app N29 N31q
      refine own_go (st31) ?_
      show own_Fin p.tables e below (T31.setTop (mkF m 277 #[.val (.int p0), .val (.int p1), .val (.int p2), .val (.int p3), .val (.int p4), .val (.int (0 : Int32)), .val (.int d0), .val (.int d1), .val (.int d2), .val (.ref b4), .val (.ref b19), .val (.int (own_am [] [(own_cnt p4 (0 : Int32)), (own_cnt p4 (1 : Int32)), (own_cnt p4 (2 : Int32)), (own_cnt p4 (3 : Int32)), (own_cnt p4 (4 : Int32)), (own_cnt p4 (5 : Int32)), (own_cnt p4 (6 : Int32))])), .val (.int ex), .unset, .unset] [(.int (own_cnt p4 (2 : Int32))), (.int (own_cnt p4 (2 : Int32)))])) _
      refine own_go (B := T31.setTop (mkF m 283 #[.val (.int p0), .val (.int p1), .val (.int p2), .val (.int p3), .val (.int p4), .val (.int (0 : Int32)), .val (.int d0), .val (.int d1), .val (.int d2), .val (.ref b4), .val (.ref b19), .val (.int (own_am [] [(own_cnt p4 (0 : Int32)), (own_cnt p4 (1 : Int32)), (own_cnt p4 (2 : Int32)), (own_cnt p4 (3 : Int32)), (own_cnt p4 (4 : Int32)), (own_cnt p4 (5 : Int32)), (own_cnt p4 (6 : Int32))])), .val (.int ex), .unset, .unset] [(.int (3 : Int32)), (.ref b4)])) (fun t k => ?_) ?_
      · show Steps p.tables e below (T31.setTop (mkF m 277 #[.val (.int p0), .val (.int p1), .val (.int p2), .val (.int p3), .val (.int p4), .val (.int (0 : Int32)), .val (.int d0), .val (.int d1), .val (.int d2), .val (.ref b4), .val (.ref b19), .val (.int (own_am [] [(own_cnt p4 (0 : Int32)), (own_cnt p4 (1 : Int32)), (own_cnt p4 (2 : Int32)), (own_cnt p4 (3 : Int32)), (own_cnt p4 (4 : Int32)), (own_cnt p4 (5 : Int32)), (own_cnt p4 (6 : Int32))])), .val (.int ex), .unset, .unset] [(.int (own_cnt p4 (2 : Int32))), (.int (own_cnt p4 (2 : Int32)))])) t
        refine XS.icmpNo X31.here hx rfl (hb hby at_277) rfl (teq (rfl : (own_cnt p4 (2 : Int32)) = (own_cnt p4 (2 : Int32)))).2 ?_
        refine XS.aload X31.here hx rfl (hb hby at_280) rfl rfl ?_
        refine XS.iconst X31.here hx rfl (hb hby at_282) ?_
        exact k
      obtain ⟨cl32, Ar32, -, S32, M32, Ha32, G32⟩ := id f26
      have hin32 : ¬ ((3 : Int32) < 0 ∨ cl32.slots.size ≤ ((3 : Int32)).toNatClampNeg) := inb_of S32 ⟨by decide, by decide⟩
      have hat32 : cl32.slots[((3 : Int32)).toNatClampNeg]? = some (.int (own_cnt p4 (3 : Int32))) := Has.at Ha32 hin32 rfl
      refine own_go (B := T31.setTop (mkF m 284 #[.val (.int p0), .val (.int p1), .val (.int p2), .val (.int p3), .val (.int p4), .val (.int (0 : Int32)), .val (.int d0), .val (.int d1), .val (.int d2), .val (.ref b4), .val (.ref b19), .val (.int (own_am [] [(own_cnt p4 (0 : Int32)), (own_cnt p4 (1 : Int32)), (own_cnt p4 (2 : Int32)), (own_cnt p4 (3 : Int32)), (own_cnt p4 (4 : Int32)), (own_cnt p4 (5 : Int32)), (own_cnt p4 (6 : Int32))])), .val (.int ex), .unset, .unset] [(.int (own_cnt p4 (3 : Int32)))])) (fun t k => ?_) ?_
      · exact X31.iaload hx (j := (3 : Int32)) (v := (.int (own_cnt p4 (3 : Int32)))) (by rw [e31]; exact Ar32.1) (State.isArrayOf_alike hZ.alike Ar32.2.1) Ar32.2.2 hin32 hat32 (g := (mkF m 283 #[.val (.int p0), .val (.int p1), .val (.int p2), .val (.int p3), .val (.int p4), .val (.int (0 : Int32)), .val (.int d0), .val (.int d1), .val (.int d2), .val (.ref b4), .val (.ref b19), .val (.int (own_am [] [(own_cnt p4 (0 : Int32)), (own_cnt p4 (1 : Int32)), (own_cnt p4 (2 : Int32)), (own_cnt p4 (3 : Int32)), (own_cnt p4 (4 : Int32)), (own_cnt p4 (5 : Int32)), (own_cnt p4 (6 : Int32))])), .val (.int ex), .unset, .unset] [(.int (3 : Int32)), (.ref b4)])) rfl rfl (hb hby at_283) _ k
      refine own_go (B := T31.setTop (mkF m 287 #[.val (.int p0), .val (.int p1), .val (.int p2), .val (.int p3), .val (.int p4), .val (.int (0 : Int32)), .val (.int d0), .val (.int d1), .val (.int d2), .val (.ref b4), .val (.ref b19), .val (.int (own_am [] [(own_cnt p4 (0 : Int32)), (own_cnt p4 (1 : Int32)), (own_cnt p4 (2 : Int32)), (own_cnt p4 (3 : Int32)), (own_cnt p4 (4 : Int32)), (own_cnt p4 (5 : Int32)), (own_cnt p4 (6 : Int32))])), .val (.int ex), .unset, .unset] [(.int (3 : Int32)), (.int p4), (.int (own_cnt p4 (3 : Int32)))])) (fun t k => ?_) ?_
      · show Steps p.tables e below (T31.setTop (mkF m 284 #[.val (.int p0), .val (.int p1), .val (.int p2), .val (.int p3), .val (.int p4), .val (.int (0 : Int32)), .val (.int d0), .val (.int d1), .val (.int d2), .val (.ref b4), .val (.ref b19), .val (.int (own_am [] [(own_cnt p4 (0 : Int32)), (own_cnt p4 (1 : Int32)), (own_cnt p4 (2 : Int32)), (own_cnt p4 (3 : Int32)), (own_cnt p4 (4 : Int32)), (own_cnt p4 (5 : Int32)), (own_cnt p4 (6 : Int32))])), .val (.int ex), .unset, .unset] [(.int (own_cnt p4 (3 : Int32)))])) t
        refine XS.iload X31.here hx rfl (hb hby at_284) rfl ?_
        refine XS.iconst X31.here hx rfl (hb hby at_286) ?_
        exact k
      obtain ⟨_, _, ⟨T33, L33, k33, n33⟩, -, X33, ⟨Lc33, hQ33, l33, y33, z33⟩, st33⟩ := Jvm.LawKit.callS X31 hx (y := (⟨"com/example/rollhaus/rollhaus/dice/FacesAmongPinLaw", "cnt", "(II)I"⟩ : MethodName)) hown (mvT hZ (hw _ (List.mem_of_getElem? (i := 1) rfl))) (mvT hZ (hw _ (List.mem_of_getElem? (i := 2) rfl))) (mvT hZ (hw _ (List.mem_of_getElem? (i := 3) rfl))) (mvT hZ (hw _ (List.mem_of_getElem? (i := 4) rfl))) (by decide) (backOf (W := 1) (rm1 l Z a0 hw [] p4 (3 : Int32)  T21.heap n0 (Nat.le_trans Z0 K21.1) ) hZ (hw _ (List.mem_of_getElem? (i := 4) rfl)) (hw _ (List.mem_of_getElem? (i := 3) rfl)) (by decide) (by decide)) (g := (mkF m 287 #[.val (.int p0), .val (.int p1), .val (.int p2), .val (.int p3), .val (.int p4), .val (.int (0 : Int32)), .val (.int d0), .val (.int d1), .val (.int d2), .val (.ref b4), .val (.ref b19), .val (.int (own_am [] [(own_cnt p4 (0 : Int32)), (own_cnt p4 (1 : Int32)), (own_cnt p4 (2 : Int32)), (own_cnt p4 (3 : Int32)), (own_cnt p4 (4 : Int32)), (own_cnt p4 (5 : Int32)), (own_cnt p4 (6 : Int32))])), .val (.int ex), .unset, .unset] [(.int (3 : Int32)), (.int p4), (.int (own_cnt p4 (3 : Int32)))])) rfl (by rw [hml]; rfl) (argsL := [(.int p4), (.int (3 : Int32))]) (rest := [(.int (own_cnt p4 (3 : Int32)))]) (lenOf pd0_0 rfl) rfl (by show 2 * 0 + _ ≤ _; exact Nat.le_of_eq rfl) (hb hby at_287) (fun _ _ => ⟨rfl, e31, (by decide : 3 + 0 ≤ _), (by decide : 14 + 0 ≤ _)⟩)
      dsimp only [Pt.U, Pt.locs, Pt.cells, Pt.slots] at X33 l33 y33 z33 st33 hQ33
      subst y33 z33
      have X33 : Stand p l e room_1 s m #[(.int p0), (.int p1), (.int p2), (.int p3), (.int p4)] below meth c T33 _ 3 14 := X33
      obtain ⟨rfl, N33q, e33⟩ := hQ33
      have N33 : Fr n0 L33 := by rw [l33]; exact Fr.app N31 N33q
      refine own_go (st33) ?_
      show own_Fin p.tables e below (T33.setTop (mkF m 290 #[.val (.int p0), .val (.int p1), .val (.int p2), .val (.int p3), .val (.int p4), .val (.int (0 : Int32)), .val (.int d0), .val (.int d1), .val (.int d2), .val (.ref b4), .val (.ref b19), .val (.int (own_am [] [(own_cnt p4 (0 : Int32)), (own_cnt p4 (1 : Int32)), (own_cnt p4 (2 : Int32)), (own_cnt p4 (3 : Int32)), (own_cnt p4 (4 : Int32)), (own_cnt p4 (5 : Int32)), (own_cnt p4 (6 : Int32))])), .val (.int ex), .unset, .unset] [(.int (own_cnt p4 (3 : Int32))), (.int (own_cnt p4 (3 : Int32)))])) _
      refine own_go (B := T33.setTop (mkF m 296 #[.val (.int p0), .val (.int p1), .val (.int p2), .val (.int p3), .val (.int p4), .val (.int (0 : Int32)), .val (.int d0), .val (.int d1), .val (.int d2), .val (.ref b4), .val (.ref b19), .val (.int (own_am [] [(own_cnt p4 (0 : Int32)), (own_cnt p4 (1 : Int32)), (own_cnt p4 (2 : Int32)), (own_cnt p4 (3 : Int32)), (own_cnt p4 (4 : Int32)), (own_cnt p4 (5 : Int32)), (own_cnt p4 (6 : Int32))])), .val (.int ex), .unset, .unset] [(.int (4 : Int32)), (.ref b4)])) (fun t k => ?_) ?_
      · show Steps p.tables e below (T33.setTop (mkF m 290 #[.val (.int p0), .val (.int p1), .val (.int p2), .val (.int p3), .val (.int p4), .val (.int (0 : Int32)), .val (.int d0), .val (.int d1), .val (.int d2), .val (.ref b4), .val (.ref b19), .val (.int (own_am [] [(own_cnt p4 (0 : Int32)), (own_cnt p4 (1 : Int32)), (own_cnt p4 (2 : Int32)), (own_cnt p4 (3 : Int32)), (own_cnt p4 (4 : Int32)), (own_cnt p4 (5 : Int32)), (own_cnt p4 (6 : Int32))])), .val (.int ex), .unset, .unset] [(.int (own_cnt p4 (3 : Int32))), (.int (own_cnt p4 (3 : Int32)))])) t
        refine XS.icmpNo X33.here hx rfl (hb hby at_290) rfl (teq (rfl : (own_cnt p4 (3 : Int32)) = (own_cnt p4 (3 : Int32)))).2 ?_
        refine XS.aload X33.here hx rfl (hb hby at_293) rfl rfl ?_
        refine XS.iconst X33.here hx rfl (hb hby at_295) ?_
        exact k
      obtain ⟨cl34, Ar34, -, S34, M34, Ha34, G34⟩ := id f26
      have hin34 : ¬ ((4 : Int32) < 0 ∨ cl34.slots.size ≤ ((4 : Int32)).toNatClampNeg) := inb_of S34 ⟨by decide, by decide⟩
      have hat34 : cl34.slots[((4 : Int32)).toNatClampNeg]? = some (.int (own_cnt p4 (4 : Int32))) := Has.at Ha34 hin34 rfl
      refine own_go (B := T33.setTop (mkF m 297 #[.val (.int p0), .val (.int p1), .val (.int p2), .val (.int p3), .val (.int p4), .val (.int (0 : Int32)), .val (.int d0), .val (.int d1), .val (.int d2), .val (.ref b4), .val (.ref b19), .val (.int (own_am [] [(own_cnt p4 (0 : Int32)), (own_cnt p4 (1 : Int32)), (own_cnt p4 (2 : Int32)), (own_cnt p4 (3 : Int32)), (own_cnt p4 (4 : Int32)), (own_cnt p4 (5 : Int32)), (own_cnt p4 (6 : Int32))])), .val (.int ex), .unset, .unset] [(.int (own_cnt p4 (4 : Int32)))])) (fun t k => ?_) ?_
      · exact X33.iaload hx (j := (4 : Int32)) (v := (.int (own_cnt p4 (4 : Int32)))) (by rw [e33]; exact Ar34.1) (State.isArrayOf_alike hZ.alike Ar34.2.1) Ar34.2.2 hin34 hat34 (g := (mkF m 296 #[.val (.int p0), .val (.int p1), .val (.int p2), .val (.int p3), .val (.int p4), .val (.int (0 : Int32)), .val (.int d0), .val (.int d1), .val (.int d2), .val (.ref b4), .val (.ref b19), .val (.int (own_am [] [(own_cnt p4 (0 : Int32)), (own_cnt p4 (1 : Int32)), (own_cnt p4 (2 : Int32)), (own_cnt p4 (3 : Int32)), (own_cnt p4 (4 : Int32)), (own_cnt p4 (5 : Int32)), (own_cnt p4 (6 : Int32))])), .val (.int ex), .unset, .unset] [(.int (4 : Int32)), (.ref b4)])) rfl rfl (hb hby at_296) _ k
      refine own_go (B := T33.setTop (mkF m 300 #[.val (.int p0), .val (.int p1), .val (.int p2), .val (.int p3), .val (.int p4), .val (.int (0 : Int32)), .val (.int d0), .val (.int d1), .val (.int d2), .val (.ref b4), .val (.ref b19), .val (.int (own_am [] [(own_cnt p4 (0 : Int32)), (own_cnt p4 (1 : Int32)), (own_cnt p4 (2 : Int32)), (own_cnt p4 (3 : Int32)), (own_cnt p4 (4 : Int32)), (own_cnt p4 (5 : Int32)), (own_cnt p4 (6 : Int32))])), .val (.int ex), .unset, .unset] [(.int (4 : Int32)), (.int p4), (.int (own_cnt p4 (4 : Int32)))])) (fun t k => ?_) ?_
      · show Steps p.tables e below (T33.setTop (mkF m 297 #[.val (.int p0), .val (.int p1), .val (.int p2), .val (.int p3), .val (.int p4), .val (.int (0 : Int32)), .val (.int d0), .val (.int d1), .val (.int d2), .val (.ref b4), .val (.ref b19), .val (.int (own_am [] [(own_cnt p4 (0 : Int32)), (own_cnt p4 (1 : Int32)), (own_cnt p4 (2 : Int32)), (own_cnt p4 (3 : Int32)), (own_cnt p4 (4 : Int32)), (own_cnt p4 (5 : Int32)), (own_cnt p4 (6 : Int32))])), .val (.int ex), .unset, .unset] [(.int (own_cnt p4 (4 : Int32)))])) t
        refine XS.iload X33.here hx rfl (hb hby at_297) rfl ?_
        refine XS.iconst X33.here hx rfl (hb hby at_299) ?_
        exact k
      obtain ⟨_, _, ⟨T35, L35, k35, n35⟩, -, X35, ⟨Lc35, hQ35, l35, y35, z35⟩, st35⟩ := Jvm.LawKit.callS X33 hx (y := (⟨"com/example/rollhaus/rollhaus/dice/FacesAmongPinLaw", "cnt", "(II)I"⟩ : MethodName)) hown (mvT hZ (hw _ (List.mem_of_getElem? (i := 1) rfl))) (mvT hZ (hw _ (List.mem_of_getElem? (i := 2) rfl))) (mvT hZ (hw _ (List.mem_of_getElem? (i := 3) rfl))) (mvT hZ (hw _ (List.mem_of_getElem? (i := 4) rfl))) (by decide) (backOf (W := 1) (rm1 l Z a0 hw [] p4 (4 : Int32)  T21.heap n0 (Nat.le_trans Z0 K21.1) ) hZ (hw _ (List.mem_of_getElem? (i := 4) rfl)) (hw _ (List.mem_of_getElem? (i := 3) rfl)) (by decide) (by decide)) (g := (mkF m 300 #[.val (.int p0), .val (.int p1), .val (.int p2), .val (.int p3), .val (.int p4), .val (.int (0 : Int32)), .val (.int d0), .val (.int d1), .val (.int d2), .val (.ref b4), .val (.ref b19), .val (.int (own_am [] [(own_cnt p4 (0 : Int32)), (own_cnt p4 (1 : Int32)), (own_cnt p4 (2 : Int32)), (own_cnt p4 (3 : Int32)), (own_cnt p4 (4 : Int32)), (own_cnt p4 (5 : Int32)), (own_cnt p4 (6 : Int32))])), .val (.int ex), .unset, .unset] [(.int (4 : Int32)), (.int p4), (.int (own_cnt p4 (4 : Int32)))])) rfl (by rw [hml]; rfl) (argsL := [(.int p4), (.int (4 : Int32))]) (rest := [(.int (own_cnt p4 (4 : Int32)))]) (lenOf pd0_0 rfl) rfl (by show 2 * 0 + _ ≤ _; exact Nat.le_of_eq rfl) (hb hby at_300) (fun _ _ => ⟨rfl, e33, (by decide : 3 + 0 ≤ _), (by decide : 14 + 0 ≤ _)⟩)
      dsimp only [Pt.U, Pt.locs, Pt.cells, Pt.slots] at X35 l35 y35 z35 st35 hQ35
      subst y35 z35
      have X35 : Stand p l e room_1 s m #[(.int p0), (.int p1), (.int p2), (.int p3), (.int p4)] below meth c T35 _ 3 14 := X35
      obtain ⟨rfl, N35q, e35⟩ := hQ35
      have N35 : Fr n0 L35 := by rw [l35]; exact Fr.app N33 N35q
      refine own_go (st35) ?_
      show own_Fin p.tables e below (T35.setTop (mkF m 303 #[.val (.int p0), .val (.int p1), .val (.int p2), .val (.int p3), .val (.int p4), .val (.int (0 : Int32)), .val (.int d0), .val (.int d1), .val (.int d2), .val (.ref b4), .val (.ref b19), .val (.int (own_am [] [(own_cnt p4 (0 : Int32)), (own_cnt p4 (1 : Int32)), (own_cnt p4 (2 : Int32)), (own_cnt p4 (3 : Int32)), (own_cnt p4 (4 : Int32)), (own_cnt p4 (5 : Int32)), (own_cnt p4 (6 : Int32))])), .val (.int ex), .unset, .unset] [(.int (own_cnt p4 (4 : Int32))), (.int (own_cnt p4 (4 : Int32)))])) _
      refine own_go (B := T35.setTop (mkF m 309 #[.val (.int p0), .val (.int p1), .val (.int p2), .val (.int p3), .val (.int p4), .val (.int (0 : Int32)), .val (.int d0), .val (.int d1), .val (.int d2), .val (.ref b4), .val (.ref b19), .val (.int (own_am [] [(own_cnt p4 (0 : Int32)), (own_cnt p4 (1 : Int32)), (own_cnt p4 (2 : Int32)), (own_cnt p4 (3 : Int32)), (own_cnt p4 (4 : Int32)), (own_cnt p4 (5 : Int32)), (own_cnt p4 (6 : Int32))])), .val (.int ex), .unset, .unset] [(.int (5 : Int32)), (.ref b4)])) (fun t k => ?_) ?_
      · show Steps p.tables e below (T35.setTop (mkF m 303 #[.val (.int p0), .val (.int p1), .val (.int p2), .val (.int p3), .val (.int p4), .val (.int (0 : Int32)), .val (.int d0), .val (.int d1), .val (.int d2), .val (.ref b4), .val (.ref b19), .val (.int (own_am [] [(own_cnt p4 (0 : Int32)), (own_cnt p4 (1 : Int32)), (own_cnt p4 (2 : Int32)), (own_cnt p4 (3 : Int32)), (own_cnt p4 (4 : Int32)), (own_cnt p4 (5 : Int32)), (own_cnt p4 (6 : Int32))])), .val (.int ex), .unset, .unset] [(.int (own_cnt p4 (4 : Int32))), (.int (own_cnt p4 (4 : Int32)))])) t
        refine XS.icmpNo X35.here hx rfl (hb hby at_303) rfl (teq (rfl : (own_cnt p4 (4 : Int32)) = (own_cnt p4 (4 : Int32)))).2 ?_
        refine XS.aload X35.here hx rfl (hb hby at_306) rfl rfl ?_
        refine XS.iconst X35.here hx rfl (hb hby at_308) ?_
        exact k
      obtain ⟨cl36, Ar36, -, S36, M36, Ha36, G36⟩ := id f26
      have hin36 : ¬ ((5 : Int32) < 0 ∨ cl36.slots.size ≤ ((5 : Int32)).toNatClampNeg) := inb_of S36 ⟨by decide, by decide⟩
      have hat36 : cl36.slots[((5 : Int32)).toNatClampNeg]? = some (.int (own_cnt p4 (5 : Int32))) := Has.at Ha36 hin36 rfl
      refine own_go (B := T35.setTop (mkF m 310 #[.val (.int p0), .val (.int p1), .val (.int p2), .val (.int p3), .val (.int p4), .val (.int (0 : Int32)), .val (.int d0), .val (.int d1), .val (.int d2), .val (.ref b4), .val (.ref b19), .val (.int (own_am [] [(own_cnt p4 (0 : Int32)), (own_cnt p4 (1 : Int32)), (own_cnt p4 (2 : Int32)), (own_cnt p4 (3 : Int32)), (own_cnt p4 (4 : Int32)), (own_cnt p4 (5 : Int32)), (own_cnt p4 (6 : Int32))])), .val (.int ex), .unset, .unset] [(.int (own_cnt p4 (5 : Int32)))])) (fun t k => ?_) ?_
      · exact X35.iaload hx (j := (5 : Int32)) (v := (.int (own_cnt p4 (5 : Int32)))) (by rw [e35]; exact Ar36.1) (State.isArrayOf_alike hZ.alike Ar36.2.1) Ar36.2.2 hin36 hat36 (g := (mkF m 309 #[.val (.int p0), .val (.int p1), .val (.int p2), .val (.int p3), .val (.int p4), .val (.int (0 : Int32)), .val (.int d0), .val (.int d1), .val (.int d2), .val (.ref b4), .val (.ref b19), .val (.int (own_am [] [(own_cnt p4 (0 : Int32)), (own_cnt p4 (1 : Int32)), (own_cnt p4 (2 : Int32)), (own_cnt p4 (3 : Int32)), (own_cnt p4 (4 : Int32)), (own_cnt p4 (5 : Int32)), (own_cnt p4 (6 : Int32))])), .val (.int ex), .unset, .unset] [(.int (5 : Int32)), (.ref b4)])) rfl rfl (hb hby at_309) _ k
      refine own_go (B := T35.setTop (mkF m 313 #[.val (.int p0), .val (.int p1), .val (.int p2), .val (.int p3), .val (.int p4), .val (.int (0 : Int32)), .val (.int d0), .val (.int d1), .val (.int d2), .val (.ref b4), .val (.ref b19), .val (.int (own_am [] [(own_cnt p4 (0 : Int32)), (own_cnt p4 (1 : Int32)), (own_cnt p4 (2 : Int32)), (own_cnt p4 (3 : Int32)), (own_cnt p4 (4 : Int32)), (own_cnt p4 (5 : Int32)), (own_cnt p4 (6 : Int32))])), .val (.int ex), .unset, .unset] [(.int (5 : Int32)), (.int p4), (.int (own_cnt p4 (5 : Int32)))])) (fun t k => ?_) ?_
      · show Steps p.tables e below (T35.setTop (mkF m 310 #[.val (.int p0), .val (.int p1), .val (.int p2), .val (.int p3), .val (.int p4), .val (.int (0 : Int32)), .val (.int d0), .val (.int d1), .val (.int d2), .val (.ref b4), .val (.ref b19), .val (.int (own_am [] [(own_cnt p4 (0 : Int32)), (own_cnt p4 (1 : Int32)), (own_cnt p4 (2 : Int32)), (own_cnt p4 (3 : Int32)), (own_cnt p4 (4 : Int32)), (own_cnt p4 (5 : Int32)), (own_cnt p4 (6 : Int32))])), .val (.int ex), .unset, .unset] [(.int (own_cnt p4 (5 : Int32)))])) t
        refine XS.iload X35.here hx rfl (hb hby at_310) rfl ?_
        refine XS.iconst X35.here hx rfl (hb hby at_312) ?_
        exact k
      obtain ⟨_, _, ⟨T37, L37, k37, n37⟩, -, X37, ⟨Lc37, hQ37, l37, y37, z37⟩, st37⟩ := Jvm.LawKit.callS X35 hx (y := (⟨"com/example/rollhaus/rollhaus/dice/FacesAmongPinLaw", "cnt", "(II)I"⟩ : MethodName)) hown (mvT hZ (hw _ (List.mem_of_getElem? (i := 1) rfl))) (mvT hZ (hw _ (List.mem_of_getElem? (i := 2) rfl))) (mvT hZ (hw _ (List.mem_of_getElem? (i := 3) rfl))) (mvT hZ (hw _ (List.mem_of_getElem? (i := 4) rfl))) (by decide) (backOf (W := 1) (rm1 l Z a0 hw [] p4 (5 : Int32)  T21.heap n0 (Nat.le_trans Z0 K21.1) ) hZ (hw _ (List.mem_of_getElem? (i := 4) rfl)) (hw _ (List.mem_of_getElem? (i := 3) rfl)) (by decide) (by decide)) (g := (mkF m 313 #[.val (.int p0), .val (.int p1), .val (.int p2), .val (.int p3), .val (.int p4), .val (.int (0 : Int32)), .val (.int d0), .val (.int d1), .val (.int d2), .val (.ref b4), .val (.ref b19), .val (.int (own_am [] [(own_cnt p4 (0 : Int32)), (own_cnt p4 (1 : Int32)), (own_cnt p4 (2 : Int32)), (own_cnt p4 (3 : Int32)), (own_cnt p4 (4 : Int32)), (own_cnt p4 (5 : Int32)), (own_cnt p4 (6 : Int32))])), .val (.int ex), .unset, .unset] [(.int (5 : Int32)), (.int p4), (.int (own_cnt p4 (5 : Int32)))])) rfl (by rw [hml]; rfl) (argsL := [(.int p4), (.int (5 : Int32))]) (rest := [(.int (own_cnt p4 (5 : Int32)))]) (lenOf pd0_0 rfl) rfl (by show 2 * 0 + _ ≤ _; exact Nat.le_of_eq rfl) (hb hby at_313) (fun _ _ => ⟨rfl, e35, (by decide : 3 + 0 ≤ _), (by decide : 14 + 0 ≤ _)⟩)
      dsimp only [Pt.U, Pt.locs, Pt.cells, Pt.slots] at X37 l37 y37 z37 st37 hQ37
      subst y37 z37
      have X37 : Stand p l e room_1 s m #[(.int p0), (.int p1), (.int p2), (.int p3), (.int p4)] below meth c T37 _ 3 14 := X37
      obtain ⟨rfl, N37q, e37⟩ := hQ37
      have N37 : Fr n0 L37 := by rw [l37]; exact Fr.app N35 N37q
      refine own_go (st37) ?_
      show own_Fin p.tables e below (T37.setTop (mkF m 316 #[.val (.int p0), .val (.int p1), .val (.int p2), .val (.int p3), .val (.int p4), .val (.int (0 : Int32)), .val (.int d0), .val (.int d1), .val (.int d2), .val (.ref b4), .val (.ref b19), .val (.int (own_am [] [(own_cnt p4 (0 : Int32)), (own_cnt p4 (1 : Int32)), (own_cnt p4 (2 : Int32)), (own_cnt p4 (3 : Int32)), (own_cnt p4 (4 : Int32)), (own_cnt p4 (5 : Int32)), (own_cnt p4 (6 : Int32))])), .val (.int ex), .unset, .unset] [(.int (own_cnt p4 (5 : Int32))), (.int (own_cnt p4 (5 : Int32)))])) _
      refine own_go (B := T37.setTop (mkF m 323 #[.val (.int p0), .val (.int p1), .val (.int p2), .val (.int p3), .val (.int p4), .val (.int (0 : Int32)), .val (.int d0), .val (.int d1), .val (.int d2), .val (.ref b4), .val (.ref b19), .val (.int (own_am [] [(own_cnt p4 (0 : Int32)), (own_cnt p4 (1 : Int32)), (own_cnt p4 (2 : Int32)), (own_cnt p4 (3 : Int32)), (own_cnt p4 (4 : Int32)), (own_cnt p4 (5 : Int32)), (own_cnt p4 (6 : Int32))])), .val (.int ex), .unset, .unset] [(.int (6 : Int32)), (.ref b4)])) (fun t k => ?_) ?_
      · show Steps p.tables e below (T37.setTop (mkF m 316 #[.val (.int p0), .val (.int p1), .val (.int p2), .val (.int p3), .val (.int p4), .val (.int (0 : Int32)), .val (.int d0), .val (.int d1), .val (.int d2), .val (.ref b4), .val (.ref b19), .val (.int (own_am [] [(own_cnt p4 (0 : Int32)), (own_cnt p4 (1 : Int32)), (own_cnt p4 (2 : Int32)), (own_cnt p4 (3 : Int32)), (own_cnt p4 (4 : Int32)), (own_cnt p4 (5 : Int32)), (own_cnt p4 (6 : Int32))])), .val (.int ex), .unset, .unset] [(.int (own_cnt p4 (5 : Int32))), (.int (own_cnt p4 (5 : Int32)))])) t
        refine XS.icmpNo X37.here hx rfl (hb hby at_316) rfl (teq (rfl : (own_cnt p4 (5 : Int32)) = (own_cnt p4 (5 : Int32)))).2 ?_
        refine XS.aload X37.here hx rfl (hb hby at_319) rfl rfl ?_
        refine XS.bipush X37.here hx rfl (hb hby at_321) ?_
        exact k
      obtain ⟨cl38, Ar38, -, S38, M38, Ha38, G38⟩ := id f26
      have hin38 : ¬ ((6 : Int32) < 0 ∨ cl38.slots.size ≤ ((6 : Int32)).toNatClampNeg) := inb_of S38 ⟨by decide, by decide⟩
      have hat38 : cl38.slots[((6 : Int32)).toNatClampNeg]? = some (.int (own_cnt p4 (6 : Int32))) := Has.at Ha38 hin38 rfl
      refine own_go (B := T37.setTop (mkF m 324 #[.val (.int p0), .val (.int p1), .val (.int p2), .val (.int p3), .val (.int p4), .val (.int (0 : Int32)), .val (.int d0), .val (.int d1), .val (.int d2), .val (.ref b4), .val (.ref b19), .val (.int (own_am [] [(own_cnt p4 (0 : Int32)), (own_cnt p4 (1 : Int32)), (own_cnt p4 (2 : Int32)), (own_cnt p4 (3 : Int32)), (own_cnt p4 (4 : Int32)), (own_cnt p4 (5 : Int32)), (own_cnt p4 (6 : Int32))])), .val (.int ex), .unset, .unset] [(.int (own_cnt p4 (6 : Int32)))])) (fun t k => ?_) ?_
      · exact X37.iaload hx (j := (6 : Int32)) (v := (.int (own_cnt p4 (6 : Int32)))) (by rw [e37]; exact Ar38.1) (State.isArrayOf_alike hZ.alike Ar38.2.1) Ar38.2.2 hin38 hat38 (g := (mkF m 323 #[.val (.int p0), .val (.int p1), .val (.int p2), .val (.int p3), .val (.int p4), .val (.int (0 : Int32)), .val (.int d0), .val (.int d1), .val (.int d2), .val (.ref b4), .val (.ref b19), .val (.int (own_am [] [(own_cnt p4 (0 : Int32)), (own_cnt p4 (1 : Int32)), (own_cnt p4 (2 : Int32)), (own_cnt p4 (3 : Int32)), (own_cnt p4 (4 : Int32)), (own_cnt p4 (5 : Int32)), (own_cnt p4 (6 : Int32))])), .val (.int ex), .unset, .unset] [(.int (6 : Int32)), (.ref b4)])) rfl rfl (hb hby at_323) _ k
      refine own_go (B := T37.setTop (mkF m 328 #[.val (.int p0), .val (.int p1), .val (.int p2), .val (.int p3), .val (.int p4), .val (.int (0 : Int32)), .val (.int d0), .val (.int d1), .val (.int d2), .val (.ref b4), .val (.ref b19), .val (.int (own_am [] [(own_cnt p4 (0 : Int32)), (own_cnt p4 (1 : Int32)), (own_cnt p4 (2 : Int32)), (own_cnt p4 (3 : Int32)), (own_cnt p4 (4 : Int32)), (own_cnt p4 (5 : Int32)), (own_cnt p4 (6 : Int32))])), .val (.int ex), .unset, .unset] [(.int (6 : Int32)), (.int p4), (.int (own_cnt p4 (6 : Int32)))])) (fun t k => ?_) ?_
      · show Steps p.tables e below (T37.setTop (mkF m 324 #[.val (.int p0), .val (.int p1), .val (.int p2), .val (.int p3), .val (.int p4), .val (.int (0 : Int32)), .val (.int d0), .val (.int d1), .val (.int d2), .val (.ref b4), .val (.ref b19), .val (.int (own_am [] [(own_cnt p4 (0 : Int32)), (own_cnt p4 (1 : Int32)), (own_cnt p4 (2 : Int32)), (own_cnt p4 (3 : Int32)), (own_cnt p4 (4 : Int32)), (own_cnt p4 (5 : Int32)), (own_cnt p4 (6 : Int32))])), .val (.int ex), .unset, .unset] [(.int (own_cnt p4 (6 : Int32)))])) t
        refine XS.iload X37.here hx rfl (hb hby at_324) rfl ?_
        refine XS.bipush X37.here hx rfl (hb hby at_326) ?_
        exact k
      obtain ⟨_, _, ⟨T39, L39, k39, n39⟩, -, X39, ⟨Lc39, hQ39, l39, y39, z39⟩, st39⟩ := Jvm.LawKit.callS X37 hx (y := (⟨"com/example/rollhaus/rollhaus/dice/FacesAmongPinLaw", "cnt", "(II)I"⟩ : MethodName)) hown (mvT hZ (hw _ (List.mem_of_getElem? (i := 1) rfl))) (mvT hZ (hw _ (List.mem_of_getElem? (i := 2) rfl))) (mvT hZ (hw _ (List.mem_of_getElem? (i := 3) rfl))) (mvT hZ (hw _ (List.mem_of_getElem? (i := 4) rfl))) (by decide) (backOf (W := 1) (rm1 l Z a0 hw [] p4 (6 : Int32)  T21.heap n0 (Nat.le_trans Z0 K21.1) ) hZ (hw _ (List.mem_of_getElem? (i := 4) rfl)) (hw _ (List.mem_of_getElem? (i := 3) rfl)) (by decide) (by decide)) (g := (mkF m 328 #[.val (.int p0), .val (.int p1), .val (.int p2), .val (.int p3), .val (.int p4), .val (.int (0 : Int32)), .val (.int d0), .val (.int d1), .val (.int d2), .val (.ref b4), .val (.ref b19), .val (.int (own_am [] [(own_cnt p4 (0 : Int32)), (own_cnt p4 (1 : Int32)), (own_cnt p4 (2 : Int32)), (own_cnt p4 (3 : Int32)), (own_cnt p4 (4 : Int32)), (own_cnt p4 (5 : Int32)), (own_cnt p4 (6 : Int32))])), .val (.int ex), .unset, .unset] [(.int (6 : Int32)), (.int p4), (.int (own_cnt p4 (6 : Int32)))])) rfl (by rw [hml]; rfl) (argsL := [(.int p4), (.int (6 : Int32))]) (rest := [(.int (own_cnt p4 (6 : Int32)))]) (lenOf pd0_0 rfl) rfl (by show 2 * 0 + _ ≤ _; exact Nat.le_of_eq rfl) (hb hby at_328) (fun _ _ => ⟨rfl, e37, (by decide : 3 + 0 ≤ _), (by decide : 14 + 0 ≤ _)⟩)
      dsimp only [Pt.U, Pt.locs, Pt.cells, Pt.slots] at X39 l39 y39 z39 st39 hQ39
      subst y39 z39
      have X39 : Stand p l e room_1 s m #[(.int p0), (.int p1), (.int p2), (.int p3), (.int p4)] below meth c T39 _ 3 14 := X39
      obtain ⟨rfl, N39q, e39⟩ := hQ39
      have N39 : Fr n0 L39 := by rw [l39]; exact Fr.app N37 N39q
      refine own_go (st39) ?_
      show own_Fin p.tables e below (T39.setTop (mkF m 331 #[.val (.int p0), .val (.int p1), .val (.int p2), .val (.int p3), .val (.int p4), .val (.int (0 : Int32)), .val (.int d0), .val (.int d1), .val (.int d2), .val (.ref b4), .val (.ref b19), .val (.int (own_am [] [(own_cnt p4 (0 : Int32)), (own_cnt p4 (1 : Int32)), (own_cnt p4 (2 : Int32)), (own_cnt p4 (3 : Int32)), (own_cnt p4 (4 : Int32)), (own_cnt p4 (5 : Int32)), (own_cnt p4 (6 : Int32))])), .val (.int ex), .unset, .unset] [(.int (own_cnt p4 (6 : Int32))), (.int (own_cnt p4 (6 : Int32)))])) _
      refine own_go (B := T39.setTop (mkF m 343 #[.val (.int p0), .val (.int p1), .val (.int p2), .val (.int p3), .val (.int p4), .val (.int (0 : Int32)), .val (.int d0), .val (.int d1), .val (.int d2), .val (.ref b4), .val (.ref b19), .val (.int (own_am [] [(own_cnt p4 (0 : Int32)), (own_cnt p4 (1 : Int32)), (own_cnt p4 (2 : Int32)), (own_cnt p4 (3 : Int32)), (own_cnt p4 (4 : Int32)), (own_cnt p4 (5 : Int32)), (own_cnt p4 (6 : Int32))])), .val (.int ex), .val (.int (1 : Int32)), .unset] [(.ref b19)])) (fun t k => ?_) ?_
      · show Steps p.tables e below (T39.setTop (mkF m 331 #[.val (.int p0), .val (.int p1), .val (.int p2), .val (.int p3), .val (.int p4), .val (.int (0 : Int32)), .val (.int d0), .val (.int d1), .val (.int d2), .val (.ref b4), .val (.ref b19), .val (.int (own_am [] [(own_cnt p4 (0 : Int32)), (own_cnt p4 (1 : Int32)), (own_cnt p4 (2 : Int32)), (own_cnt p4 (3 : Int32)), (own_cnt p4 (4 : Int32)), (own_cnt p4 (5 : Int32)), (own_cnt p4 (6 : Int32))])), .val (.int ex), .unset, .unset] [(.int (own_cnt p4 (6 : Int32))), (.int (own_cnt p4 (6 : Int32)))])) t
        refine XS.icmpNo X39.here hx rfl (hb hby at_331) rfl (teq (rfl : (own_cnt p4 (6 : Int32)) = (own_cnt p4 (6 : Int32)))).2 ?_
        refine XS.iconst X39.here hx rfl (hb hby at_334) ?_
        refine XS.goto X39.here hx rfl (pc0 := 335) (pc' := 339) rfl (hb hby at_335) (by decide) (by decide) ?_
        refine XS.istore X39.here hx rfl (hb hby at_339) rfl (l' := #[.val (.int p0), .val (.int p1), .val (.int p2), .val (.int p3), .val (.int p4), .val (.int (0 : Int32)), .val (.int d0), .val (.int d1), .val (.int d2), .val (.ref b4), .val (.ref b19), .val (.int (own_am [] [(own_cnt p4 (0 : Int32)), (own_cnt p4 (1 : Int32)), (own_cnt p4 (2 : Int32)), (own_cnt p4 (3 : Int32)), (own_cnt p4 (4 : Int32)), (own_cnt p4 (5 : Int32)), (own_cnt p4 (6 : Int32))])), .val (.int ex), .val (.int (1 : Int32)), .unset]) rfl ?_
        show Steps p.tables e below (T39.setTop (mkF m 341 #[.val (.int p0), .val (.int p1), .val (.int p2), .val (.int p3), .val (.int p4), .val (.int (0 : Int32)), .val (.int d0), .val (.int d1), .val (.int d2), .val (.ref b4), .val (.ref b19), .val (.int (own_am [] [(own_cnt p4 (0 : Int32)), (own_cnt p4 (1 : Int32)), (own_cnt p4 (2 : Int32)), (own_cnt p4 (3 : Int32)), (own_cnt p4 (4 : Int32)), (own_cnt p4 (5 : Int32)), (own_cnt p4 (6 : Int32))])), .val (.int ex), .val (.int (1 : Int32)), .unset] [])) t
        refine XS.aload X39.here hx rfl (hb hby at_341) rfl rfl ?_
        exact k
      have f41 := (V_b19.keep Kq21 nin0)
      obtain ⟨cl40, Ar40, -, S40, M40, -, -⟩ := id f41
      refine own_go (B := T39.setTop (mkF m 344 #[.val (.int p0), .val (.int p1), .val (.int p2), .val (.int p3), .val (.int p4), .val (.int (0 : Int32)), .val (.int d0), .val (.int d1), .val (.int d2), .val (.ref b4), .val (.ref b19), .val (.int (own_am [] [(own_cnt p4 (0 : Int32)), (own_cnt p4 (1 : Int32)), (own_cnt p4 (2 : Int32)), (own_cnt p4 (3 : Int32)), (own_cnt p4 (4 : Int32)), (own_cnt p4 (5 : Int32)), (own_cnt p4 (6 : Int32))])), .val (.int ex), .val (.int (1 : Int32)), .unset] [(.int (0 : Int32))])) (fun t k => ?_) ?_
      · refine X39.arraylength hx (by rw [e39]; exact Ar40.1) (State.isArrayOf_alike hZ.alike Ar40.2.1) (g := (mkF m 343 #[.val (.int p0), .val (.int p1), .val (.int p2), .val (.int p3), .val (.int p4), .val (.int (0 : Int32)), .val (.int d0), .val (.int d1), .val (.int d2), .val (.ref b4), .val (.ref b19), .val (.int (own_am [] [(own_cnt p4 (0 : Int32)), (own_cnt p4 (1 : Int32)), (own_cnt p4 (2 : Int32)), (own_cnt p4 (3 : Int32)), (own_cnt p4 (4 : Int32)), (own_cnt p4 (5 : Int32)), (own_cnt p4 (6 : Int32))])), .val (.int ex), .val (.int (1 : Int32)), .unset] [(.ref b19)])) rfl rfl (hb hby at_343) _ ?_
        rw [len_of S40 M40]
        exact k
      refine own_go (B := T39.setTop (mkF m 405 #[.val (.int p0), .val (.int p1), .val (.int p2), .val (.int p3), .val (.int p4), .val (.int (0 : Int32)), .val (.int d0), .val (.int d1), .val (.int d2), .val (.ref b4), .val (.ref b19), .val (.int (own_am [] [(own_cnt p4 (0 : Int32)), (own_cnt p4 (1 : Int32)), (own_cnt p4 (2 : Int32)), (own_cnt p4 (3 : Int32)), (own_cnt p4 (4 : Int32)), (own_cnt p4 (5 : Int32)), (own_cnt p4 (6 : Int32))])), .val (.int ex), .val (.int (1 : Int32)), .val (.int (1 : Int32))] [(.int ex), (.int (own_am [] [(own_cnt p4 (0 : Int32)), (own_cnt p4 (1 : Int32)), (own_cnt p4 (2 : Int32)), (own_cnt p4 (3 : Int32)), (own_cnt p4 (4 : Int32)), (own_cnt p4 (5 : Int32)), (own_cnt p4 (6 : Int32))]))])) (fun t k => ?_) ?_
      · show Steps p.tables e below (T39.setTop (mkF m 344 #[.val (.int p0), .val (.int p1), .val (.int p2), .val (.int p3), .val (.int p4), .val (.int (0 : Int32)), .val (.int d0), .val (.int d1), .val (.int d2), .val (.ref b4), .val (.ref b19), .val (.int (own_am [] [(own_cnt p4 (0 : Int32)), (own_cnt p4 (1 : Int32)), (own_cnt p4 (2 : Int32)), (own_cnt p4 (3 : Int32)), (own_cnt p4 (4 : Int32)), (own_cnt p4 (5 : Int32)), (own_cnt p4 (6 : Int32))])), .val (.int ex), .val (.int (1 : Int32)), .unset] [(.int (0 : Int32))])) t
        refine XS.iload X39.here hx rfl (hb hby at_344) rfl ?_
        refine XS.icmpNo X39.here hx rfl (hb hby at_346) rfl (teq (rfl : (0 : Int32) = (0 : Int32))).2 ?_
        refine XS.iload X39.here hx rfl (hb hby at_349) rfl ?_
        refine XS.iconst X39.here hx rfl (hb hby at_351) ?_
        show Steps p.tables e below (T39.setTop (mkF m 352 #[.val (.int p0), .val (.int p1), .val (.int p2), .val (.int p3), .val (.int p4), .val (.int (0 : Int32)), .val (.int d0), .val (.int d1), .val (.int d2), .val (.ref b4), .val (.ref b19), .val (.int (own_am [] [(own_cnt p4 (0 : Int32)), (own_cnt p4 (1 : Int32)), (own_cnt p4 (2 : Int32)), (own_cnt p4 (3 : Int32)), (own_cnt p4 (4 : Int32)), (own_cnt p4 (5 : Int32)), (own_cnt p4 (6 : Int32))])), .val (.int ex), .val (.int (1 : Int32)), .unset] [(.int (1 : Int32)), (.int (0 : Int32))])) t
        refine XS.icmpYes X39.here hx rfl (pc0 := 352) (pc' := 364) rfl (hb hby at_352) rfl (tlt (by decide : (0 : Int32) < (1 : Int32))).1 (by decide) (by decide) ?_
        refine XS.iload X39.here hx rfl (hb hby at_364) rfl ?_
        refine XS.iconst X39.here hx rfl (hb hby at_366) ?_
        refine XS.icmpYes X39.here hx rfl (pc0 := 367) (pc' := 379) rfl (hb hby at_367) rfl (tlt (by decide : (0 : Int32) < (2 : Int32))).1 (by decide) (by decide) ?_
        show Steps p.tables e below (T39.setTop (mkF m 379 #[.val (.int p0), .val (.int p1), .val (.int p2), .val (.int p3), .val (.int p4), .val (.int (0 : Int32)), .val (.int d0), .val (.int d1), .val (.int d2), .val (.ref b4), .val (.ref b19), .val (.int (own_am [] [(own_cnt p4 (0 : Int32)), (own_cnt p4 (1 : Int32)), (own_cnt p4 (2 : Int32)), (own_cnt p4 (3 : Int32)), (own_cnt p4 (4 : Int32)), (own_cnt p4 (5 : Int32)), (own_cnt p4 (6 : Int32))])), .val (.int ex), .val (.int (1 : Int32)), .unset] [])) t
        refine XS.iload X39.here hx rfl (hb hby at_379) rfl ?_
        refine XS.iconst X39.here hx rfl (hb hby at_381) ?_
        refine XS.icmpYes X39.here hx rfl (pc0 := 382) (pc' := 394) rfl (hb hby at_382) rfl (tlt (by decide : (0 : Int32) < (3 : Int32))).1 (by decide) (by decide) ?_
        refine XS.iconst X39.here hx rfl (hb hby at_394) ?_
        show Steps p.tables e below (T39.setTop (mkF m 395 #[.val (.int p0), .val (.int p1), .val (.int p2), .val (.int p3), .val (.int p4), .val (.int (0 : Int32)), .val (.int d0), .val (.int d1), .val (.int d2), .val (.ref b4), .val (.ref b19), .val (.int (own_am [] [(own_cnt p4 (0 : Int32)), (own_cnt p4 (1 : Int32)), (own_cnt p4 (2 : Int32)), (own_cnt p4 (3 : Int32)), (own_cnt p4 (4 : Int32)), (own_cnt p4 (5 : Int32)), (own_cnt p4 (6 : Int32))])), .val (.int ex), .val (.int (1 : Int32)), .unset] [(.int (1 : Int32))])) t
        refine XS.goto X39.here hx rfl (pc0 := 395) (pc' := 399) rfl (hb hby at_395) (by decide) (by decide) ?_
        refine XS.istore X39.here hx rfl (hb hby at_399) rfl (l' := #[.val (.int p0), .val (.int p1), .val (.int p2), .val (.int p3), .val (.int p4), .val (.int (0 : Int32)), .val (.int d0), .val (.int d1), .val (.int d2), .val (.ref b4), .val (.ref b19), .val (.int (own_am [] [(own_cnt p4 (0 : Int32)), (own_cnt p4 (1 : Int32)), (own_cnt p4 (2 : Int32)), (own_cnt p4 (3 : Int32)), (own_cnt p4 (4 : Int32)), (own_cnt p4 (5 : Int32)), (own_cnt p4 (6 : Int32))])), .val (.int ex), .val (.int (1 : Int32)), .val (.int (1 : Int32))]) rfl ?_
        refine XS.iload X39.here hx rfl (hb hby at_401) rfl ?_
        refine XS.iload X39.here hx rfl (hb hby at_403) rfl ?_
        exact k
      have hc42 : (own_am [] [(own_cnt p4 (0 : Int32)), (own_cnt p4 (1 : Int32)), (own_cnt p4 (2 : Int32)), (own_cnt p4 (3 : Int32)), (own_cnt p4 (4 : Int32)), (own_cnt p4 (5 : Int32)), (own_cnt p4 (6 : Int32))]) = ex := hex
      refine own_go (B := T39.setTop (mkF m 423 #[.val (.int p0), .val (.int p1), .val (.int p2), .val (.int p3), .val (.int p4), .val (.int (0 : Int32)), .val (.int d0), .val (.int d1), .val (.int d2), .val (.ref b4), .val (.ref b19), .val (.int (own_am [] [(own_cnt p4 (0 : Int32)), (own_cnt p4 (1 : Int32)), (own_cnt p4 (2 : Int32)), (own_cnt p4 (3 : Int32)), (own_cnt p4 (4 : Int32)), (own_cnt p4 (5 : Int32)), (own_cnt p4 (6 : Int32))])), .val (.int ex), .val (.int (1 : Int32)), .val (.int (1 : Int32))] [(.int (1 : Int32))])) (fun t k => ?_) ?_
      · show Steps p.tables e below (T39.setTop (mkF m 405 #[.val (.int p0), .val (.int p1), .val (.int p2), .val (.int p3), .val (.int p4), .val (.int (0 : Int32)), .val (.int d0), .val (.int d1), .val (.int d2), .val (.ref b4), .val (.ref b19), .val (.int (own_am [] [(own_cnt p4 (0 : Int32)), (own_cnt p4 (1 : Int32)), (own_cnt p4 (2 : Int32)), (own_cnt p4 (3 : Int32)), (own_cnt p4 (4 : Int32)), (own_cnt p4 (5 : Int32)), (own_cnt p4 (6 : Int32))])), .val (.int ex), .val (.int (1 : Int32)), .val (.int (1 : Int32))] [(.int ex), (.int (own_am [] [(own_cnt p4 (0 : Int32)), (own_cnt p4 (1 : Int32)), (own_cnt p4 (2 : Int32)), (own_cnt p4 (3 : Int32)), (own_cnt p4 (4 : Int32)), (own_cnt p4 (5 : Int32)), (own_cnt p4 (6 : Int32))]))])) t
        refine XS.icmpNo X39.here hx rfl (hb hby at_405) rfl (teq hc42).2 ?_
        refine XS.iload X39.here hx rfl (hb hby at_408) rfl ?_
        refine XS.ifNo X39.here hx rfl (hb hby at_410) rfl ((if0 _ _).trans (feq (by decide : ¬ ((1 : Int32) = (0 : Int32)))).1) ?_
        refine XS.iload X39.here hx rfl (hb hby at_413) rfl ?_
        show Steps p.tables e below (T39.setTop (mkF m 415 #[.val (.int p0), .val (.int p1), .val (.int p2), .val (.int p3), .val (.int p4), .val (.int (0 : Int32)), .val (.int d0), .val (.int d1), .val (.int d2), .val (.ref b4), .val (.ref b19), .val (.int (own_am [] [(own_cnt p4 (0 : Int32)), (own_cnt p4 (1 : Int32)), (own_cnt p4 (2 : Int32)), (own_cnt p4 (3 : Int32)), (own_cnt p4 (4 : Int32)), (own_cnt p4 (5 : Int32)), (own_cnt p4 (6 : Int32))])), .val (.int ex), .val (.int (1 : Int32)), .val (.int (1 : Int32))] [(.int (1 : Int32))])) t
        refine XS.ifNo X39.here hx rfl (hb hby at_415) rfl ((if0 _ _).trans (feq (by decide : ¬ ((1 : Int32) = (0 : Int32)))).1) ?_
        refine XS.iconst X39.here hx rfl (hb hby at_418) ?_
        refine XS.goto X39.here hx rfl (pc0 := 419) (pc' := 423) rfl (hb hby at_419) (by decide) (by decide) ?_
        exact k
      obtain ⟨fs, hr, hrun, hended, hW, hsame⟩ := X39.leave (v := some (.int (1 : Int32))) (fun h => by rw [Bd.returns] at h; cases h)
      refine ⟨_, _, ?_, hrun, hended, _, _, rfl, ?_, ⟨_, rfl⟩, hW, hsame.mono (by decide) (by decide)⟩
      · exact retOut X39 hx (t := .boolean) Bd.returns rfl (Or.inl ⟨rfl, by simp, _, rfl⟩) (hb hby at_423) hr
      · show Q0 Z p0 p1 p2 p3 p4 h0 n0 _ T39.heap _
        rw [e39]
        exact ⟨rfl, N39⟩
    by_cases hc44 : (own_fits (0 : Int32) (0 : Int32) d0 d1 d2 p4) = (0 : Int32)
    · skip
      refine own_go (B := T24.setTop (mkF m 239 #[.val (.int p0), .val (.int p1), .val (.int p2), .val (.int p3), .val (.int p4), .val (.int (0 : Int32)), .val (.int d0), .val (.int d1), .val (.int d2), .val (.ref b4), .val (.ref b19), .val (.int (own_am [] [(own_cnt p4 (0 : Int32)), (own_cnt p4 (1 : Int32)), (own_cnt p4 (2 : Int32)), (own_cnt p4 (3 : Int32)), (own_cnt p4 (4 : Int32)), (own_cnt p4 (5 : Int32)), (own_cnt p4 (6 : Int32))])), .unset, .unset, .unset] [(.int (0 : Int32))])) (fun t k => ?_) ?_
      · show Steps p.tables e below (T24.setTop (mkF m 197 #[.val (.int p0), .val (.int p1), .val (.int p2), .val (.int p3), .val (.int p4), .val (.int (0 : Int32)), .val (.int d0), .val (.int d1), .val (.int d2), .val (.ref b4), .val (.ref b19), .val (.int (own_am [] [(own_cnt p4 (0 : Int32)), (own_cnt p4 (1 : Int32)), (own_cnt p4 (2 : Int32)), (own_cnt p4 (3 : Int32)), (own_cnt p4 (4 : Int32)), (own_cnt p4 (5 : Int32)), (own_cnt p4 (6 : Int32))])), .unset, .unset, .unset] [(.int (own_fits (0 : Int32) (0 : Int32) d0 d1 d2 p4))])) t
        refine XS.ifYes X24.here hx rfl (pc0 := 197) (pc' := 238) rfl (hb hby at_197) rfl ((if0 _ _).trans (teq hc44).1) (by decide) (by decide) ?_
        refine XS.iconst X24.here hx rfl (hb hby at_238) ?_
        exact k
      exact joinJ _ _ X24 e24 N24 _ (by rw [own_law0 d0 d1 d2]; simp only [if_pos hc44])
    · skip
      refine own_go (B := T24.setTop (mkF m 211 #[.val (.int p0), .val (.int p1), .val (.int p2), .val (.int p3), .val (.int p4), .val (.int (0 : Int32)), .val (.int d0), .val (.int d1), .val (.int d2), .val (.ref b4), .val (.ref b19), .val (.int (own_am [] [(own_cnt p4 (0 : Int32)), (own_cnt p4 (1 : Int32)), (own_cnt p4 (2 : Int32)), (own_cnt p4 (3 : Int32)), (own_cnt p4 (4 : Int32)), (own_cnt p4 (5 : Int32)), (own_cnt p4 (6 : Int32))])), .unset, .unset, .unset] [(.int p4), (.int d2), (.int d1), (.int d0), (.int (0 : Int32)), (.int (1 : Int32))])) (fun t k => ?_) ?_
      · show Steps p.tables e below (T24.setTop (mkF m 197 #[.val (.int p0), .val (.int p1), .val (.int p2), .val (.int p3), .val (.int p4), .val (.int (0 : Int32)), .val (.int d0), .val (.int d1), .val (.int d2), .val (.ref b4), .val (.ref b19), .val (.int (own_am [] [(own_cnt p4 (0 : Int32)), (own_cnt p4 (1 : Int32)), (own_cnt p4 (2 : Int32)), (own_cnt p4 (3 : Int32)), (own_cnt p4 (4 : Int32)), (own_cnt p4 (5 : Int32)), (own_cnt p4 (6 : Int32))])), .unset, .unset, .unset] [(.int (own_fits (0 : Int32) (0 : Int32) d0 d1 d2 p4))])) t
        refine XS.ifNo X24.here hx rfl (hb hby at_197) rfl ((if0 _ _).trans (feq hc44).1) ?_
        refine XS.iconst X24.here hx rfl (hb hby at_200) ?_
        refine XS.iload X24.here hx rfl (hb hby at_201) rfl ?_
        refine XS.iload X24.here hx rfl (hb hby at_203) rfl ?_
        show Steps p.tables e below (T24.setTop (mkF m 205 #[.val (.int p0), .val (.int p1), .val (.int p2), .val (.int p3), .val (.int p4), .val (.int (0 : Int32)), .val (.int d0), .val (.int d1), .val (.int d2), .val (.ref b4), .val (.ref b19), .val (.int (own_am [] [(own_cnt p4 (0 : Int32)), (own_cnt p4 (1 : Int32)), (own_cnt p4 (2 : Int32)), (own_cnt p4 (3 : Int32)), (own_cnt p4 (4 : Int32)), (own_cnt p4 (5 : Int32)), (own_cnt p4 (6 : Int32))])), .unset, .unset, .unset] [(.int d0), (.int (0 : Int32)), (.int (1 : Int32))])) t
        refine XS.iload X24.here hx rfl (hb hby at_205) rfl ?_
        refine XS.iload X24.here hx rfl (hb hby at_207) rfl ?_
        refine XS.iload X24.here hx rfl (hb hby at_209) rfl ?_
        exact k
      obtain ⟨_, _, ⟨T45, L45, k45, n45⟩, -, X45, ⟨Lc45, hQ45, l45, y45, z45⟩, st45⟩ := Jvm.LawKit.callS X24 hx (y := (⟨"com/example/rollhaus/rollhaus/dice/FacesAmongPinLaw", "fits", "(IIIIII)Z"⟩ : MethodName)) hown (mvT hZ (hw _ (List.mem_of_getElem? (i := 18) rfl))) (mvT hZ (hw _ (List.mem_of_getElem? (i := 19) rfl))) (mvT hZ (hw _ (List.mem_of_getElem? (i := 3) rfl))) (mvT hZ (hw _ (List.mem_of_getElem? (i := 20) rfl))) (by decide) (backOf (W := 0) (rm2 l Z a0 hw [] (1 : Int32) (0 : Int32) d0 d1 d2 p4  T21.heap n0 (Nat.le_trans Z0 K21.1) ) hZ (hw _ (List.mem_of_getElem? (i := 20) rfl)) (hw _ (List.mem_of_getElem? (i := 3) rfl)) (by decide) (by decide)) (g := (mkF m 211 #[.val (.int p0), .val (.int p1), .val (.int p2), .val (.int p3), .val (.int p4), .val (.int (0 : Int32)), .val (.int d0), .val (.int d1), .val (.int d2), .val (.ref b4), .val (.ref b19), .val (.int (own_am [] [(own_cnt p4 (0 : Int32)), (own_cnt p4 (1 : Int32)), (own_cnt p4 (2 : Int32)), (own_cnt p4 (3 : Int32)), (own_cnt p4 (4 : Int32)), (own_cnt p4 (5 : Int32)), (own_cnt p4 (6 : Int32))])), .unset, .unset, .unset] [(.int p4), (.int d2), (.int d1), (.int d0), (.int (0 : Int32)), (.int (1 : Int32))])) rfl (by rw [hml]; rfl) (argsL := [(.int (1 : Int32)), (.int (0 : Int32)), (.int d0), (.int d1), (.int d2), (.int p4)]) (rest := []) (lenOf pd0_2 rfl) rfl (by show 2 * 0 + _ ≤ _; exact Nat.le_of_eq rfl) (hb hby at_211) (fun _ _ => ⟨rfl, e24, (by decide : 3 + 0 ≤ _), (by decide : 14 + 0 ≤ _)⟩)
      dsimp only [Pt.U, Pt.locs, Pt.cells, Pt.slots] at X45 l45 y45 z45 st45 hQ45
      subst y45 z45
      have X45 : Stand p l e room_1 s m #[(.int p0), (.int p1), (.int p2), (.int p3), (.int p4)] below meth c T45 _ 3 14 := X45
      obtain ⟨rfl, N45q, e45⟩ := hQ45
      have N45 : Fr n0 L45 := by rw [l45]; exact Fr.app N24 N45q
      refine own_go (st45) ?_
      show own_Fin p.tables e below (T45.setTop (mkF m 214 #[.val (.int p0), .val (.int p1), .val (.int p2), .val (.int p3), .val (.int p4), .val (.int (0 : Int32)), .val (.int d0), .val (.int d1), .val (.int d2), .val (.ref b4), .val (.ref b19), .val (.int (own_am [] [(own_cnt p4 (0 : Int32)), (own_cnt p4 (1 : Int32)), (own_cnt p4 (2 : Int32)), (own_cnt p4 (3 : Int32)), (own_cnt p4 (4 : Int32)), (own_cnt p4 (5 : Int32)), (own_cnt p4 (6 : Int32))])), .unset, .unset, .unset] [(.int (own_fits (1 : Int32) (0 : Int32) d0 d1 d2 p4))])) _
      by_cases hc46 : (own_fits (1 : Int32) (0 : Int32) d0 d1 d2 p4) = (0 : Int32)
      · skip
        refine own_go (B := T45.setTop (mkF m 239 #[.val (.int p0), .val (.int p1), .val (.int p2), .val (.int p3), .val (.int p4), .val (.int (0 : Int32)), .val (.int d0), .val (.int d1), .val (.int d2), .val (.ref b4), .val (.ref b19), .val (.int (own_am [] [(own_cnt p4 (0 : Int32)), (own_cnt p4 (1 : Int32)), (own_cnt p4 (2 : Int32)), (own_cnt p4 (3 : Int32)), (own_cnt p4 (4 : Int32)), (own_cnt p4 (5 : Int32)), (own_cnt p4 (6 : Int32))])), .unset, .unset, .unset] [(.int (0 : Int32))])) (fun t k => ?_) ?_
        · show Steps p.tables e below (T45.setTop (mkF m 214 #[.val (.int p0), .val (.int p1), .val (.int p2), .val (.int p3), .val (.int p4), .val (.int (0 : Int32)), .val (.int d0), .val (.int d1), .val (.int d2), .val (.ref b4), .val (.ref b19), .val (.int (own_am [] [(own_cnt p4 (0 : Int32)), (own_cnt p4 (1 : Int32)), (own_cnt p4 (2 : Int32)), (own_cnt p4 (3 : Int32)), (own_cnt p4 (4 : Int32)), (own_cnt p4 (5 : Int32)), (own_cnt p4 (6 : Int32))])), .unset, .unset, .unset] [(.int (own_fits (1 : Int32) (0 : Int32) d0 d1 d2 p4))])) t
          refine XS.ifYes X45.here hx rfl (pc0 := 214) (pc' := 238) rfl (hb hby at_214) rfl ((if0 _ _).trans (teq hc46).1) (by decide) (by decide) ?_
          refine XS.iconst X45.here hx rfl (hb hby at_238) ?_
          exact k
        exact joinJ _ _ X45 e45 N45 _ (by rw [own_law0 d0 d1 d2]; simp only [if_neg hc44, if_pos hc46])
      · skip
        refine own_go (B := T45.setTop (mkF m 228 #[.val (.int p0), .val (.int p1), .val (.int p2), .val (.int p3), .val (.int p4), .val (.int (0 : Int32)), .val (.int d0), .val (.int d1), .val (.int d2), .val (.ref b4), .val (.ref b19), .val (.int (own_am [] [(own_cnt p4 (0 : Int32)), (own_cnt p4 (1 : Int32)), (own_cnt p4 (2 : Int32)), (own_cnt p4 (3 : Int32)), (own_cnt p4 (4 : Int32)), (own_cnt p4 (5 : Int32)), (own_cnt p4 (6 : Int32))])), .unset, .unset, .unset] [(.int p4), (.int d2), (.int d1), (.int d0), (.int (0 : Int32)), (.int (2 : Int32))])) (fun t k => ?_) ?_
        · show Steps p.tables e below (T45.setTop (mkF m 214 #[.val (.int p0), .val (.int p1), .val (.int p2), .val (.int p3), .val (.int p4), .val (.int (0 : Int32)), .val (.int d0), .val (.int d1), .val (.int d2), .val (.ref b4), .val (.ref b19), .val (.int (own_am [] [(own_cnt p4 (0 : Int32)), (own_cnt p4 (1 : Int32)), (own_cnt p4 (2 : Int32)), (own_cnt p4 (3 : Int32)), (own_cnt p4 (4 : Int32)), (own_cnt p4 (5 : Int32)), (own_cnt p4 (6 : Int32))])), .unset, .unset, .unset] [(.int (own_fits (1 : Int32) (0 : Int32) d0 d1 d2 p4))])) t
          refine XS.ifNo X45.here hx rfl (hb hby at_214) rfl ((if0 _ _).trans (feq hc46).1) ?_
          refine XS.iconst X45.here hx rfl (hb hby at_217) ?_
          refine XS.iload X45.here hx rfl (hb hby at_218) rfl ?_
          refine XS.iload X45.here hx rfl (hb hby at_220) rfl ?_
          show Steps p.tables e below (T45.setTop (mkF m 222 #[.val (.int p0), .val (.int p1), .val (.int p2), .val (.int p3), .val (.int p4), .val (.int (0 : Int32)), .val (.int d0), .val (.int d1), .val (.int d2), .val (.ref b4), .val (.ref b19), .val (.int (own_am [] [(own_cnt p4 (0 : Int32)), (own_cnt p4 (1 : Int32)), (own_cnt p4 (2 : Int32)), (own_cnt p4 (3 : Int32)), (own_cnt p4 (4 : Int32)), (own_cnt p4 (5 : Int32)), (own_cnt p4 (6 : Int32))])), .unset, .unset, .unset] [(.int d0), (.int (0 : Int32)), (.int (2 : Int32))])) t
          refine XS.iload X45.here hx rfl (hb hby at_222) rfl ?_
          refine XS.iload X45.here hx rfl (hb hby at_224) rfl ?_
          refine XS.iload X45.here hx rfl (hb hby at_226) rfl ?_
          exact k
        obtain ⟨_, _, ⟨T47, L47, k47, n47⟩, -, X47, ⟨Lc47, hQ47, l47, y47, z47⟩, st47⟩ := Jvm.LawKit.callS X45 hx (y := (⟨"com/example/rollhaus/rollhaus/dice/FacesAmongPinLaw", "fits", "(IIIIII)Z"⟩ : MethodName)) hown (mvT hZ (hw _ (List.mem_of_getElem? (i := 18) rfl))) (mvT hZ (hw _ (List.mem_of_getElem? (i := 19) rfl))) (mvT hZ (hw _ (List.mem_of_getElem? (i := 3) rfl))) (mvT hZ (hw _ (List.mem_of_getElem? (i := 20) rfl))) (by decide) (backOf (W := 0) (rm2 l Z a0 hw [] (2 : Int32) (0 : Int32) d0 d1 d2 p4  T21.heap n0 (Nat.le_trans Z0 K21.1) ) hZ (hw _ (List.mem_of_getElem? (i := 20) rfl)) (hw _ (List.mem_of_getElem? (i := 3) rfl)) (by decide) (by decide)) (g := (mkF m 228 #[.val (.int p0), .val (.int p1), .val (.int p2), .val (.int p3), .val (.int p4), .val (.int (0 : Int32)), .val (.int d0), .val (.int d1), .val (.int d2), .val (.ref b4), .val (.ref b19), .val (.int (own_am [] [(own_cnt p4 (0 : Int32)), (own_cnt p4 (1 : Int32)), (own_cnt p4 (2 : Int32)), (own_cnt p4 (3 : Int32)), (own_cnt p4 (4 : Int32)), (own_cnt p4 (5 : Int32)), (own_cnt p4 (6 : Int32))])), .unset, .unset, .unset] [(.int p4), (.int d2), (.int d1), (.int d0), (.int (0 : Int32)), (.int (2 : Int32))])) rfl (by rw [hml]; rfl) (argsL := [(.int (2 : Int32)), (.int (0 : Int32)), (.int d0), (.int d1), (.int d2), (.int p4)]) (rest := []) (lenOf pd0_2 rfl) rfl (by show 2 * 0 + _ ≤ _; exact Nat.le_of_eq rfl) (hb hby at_228) (fun _ _ => ⟨rfl, e45, (by decide : 3 + 0 ≤ _), (by decide : 14 + 0 ≤ _)⟩)
        dsimp only [Pt.U, Pt.locs, Pt.cells, Pt.slots] at X47 l47 y47 z47 st47 hQ47
        subst y47 z47
        have X47 : Stand p l e room_1 s m #[(.int p0), (.int p1), (.int p2), (.int p3), (.int p4)] below meth c T47 _ 3 14 := X47
        obtain ⟨rfl, N47q, e47⟩ := hQ47
        have N47 : Fr n0 L47 := by rw [l47]; exact Fr.app N45 N47q
        refine own_go (st47) ?_
        show own_Fin p.tables e below (T47.setTop (mkF m 231 #[.val (.int p0), .val (.int p1), .val (.int p2), .val (.int p3), .val (.int p4), .val (.int (0 : Int32)), .val (.int d0), .val (.int d1), .val (.int d2), .val (.ref b4), .val (.ref b19), .val (.int (own_am [] [(own_cnt p4 (0 : Int32)), (own_cnt p4 (1 : Int32)), (own_cnt p4 (2 : Int32)), (own_cnt p4 (3 : Int32)), (own_cnt p4 (4 : Int32)), (own_cnt p4 (5 : Int32)), (own_cnt p4 (6 : Int32))])), .unset, .unset, .unset] [(.int (own_fits (2 : Int32) (0 : Int32) d0 d1 d2 p4))])) _
        by_cases hc48 : (own_fits (2 : Int32) (0 : Int32) d0 d1 d2 p4) = (0 : Int32)
        · skip
          refine own_go (B := T47.setTop (mkF m 239 #[.val (.int p0), .val (.int p1), .val (.int p2), .val (.int p3), .val (.int p4), .val (.int (0 : Int32)), .val (.int d0), .val (.int d1), .val (.int d2), .val (.ref b4), .val (.ref b19), .val (.int (own_am [] [(own_cnt p4 (0 : Int32)), (own_cnt p4 (1 : Int32)), (own_cnt p4 (2 : Int32)), (own_cnt p4 (3 : Int32)), (own_cnt p4 (4 : Int32)), (own_cnt p4 (5 : Int32)), (own_cnt p4 (6 : Int32))])), .unset, .unset, .unset] [(.int (0 : Int32))])) (fun t k => ?_) ?_
          · show Steps p.tables e below (T47.setTop (mkF m 231 #[.val (.int p0), .val (.int p1), .val (.int p2), .val (.int p3), .val (.int p4), .val (.int (0 : Int32)), .val (.int d0), .val (.int d1), .val (.int d2), .val (.ref b4), .val (.ref b19), .val (.int (own_am [] [(own_cnt p4 (0 : Int32)), (own_cnt p4 (1 : Int32)), (own_cnt p4 (2 : Int32)), (own_cnt p4 (3 : Int32)), (own_cnt p4 (4 : Int32)), (own_cnt p4 (5 : Int32)), (own_cnt p4 (6 : Int32))])), .unset, .unset, .unset] [(.int (own_fits (2 : Int32) (0 : Int32) d0 d1 d2 p4))])) t
            refine XS.ifYes X47.here hx rfl (pc0 := 231) (pc' := 238) rfl (hb hby at_231) rfl ((if0 _ _).trans (teq hc48).1) (by decide) (by decide) ?_
            refine XS.iconst X47.here hx rfl (hb hby at_238) ?_
            exact k
          exact joinJ _ _ X47 e47 N47 _ (by rw [own_law0 d0 d1 d2]; simp only [if_neg hc44, if_neg hc46, if_pos hc48])
        · skip
          refine own_go (B := T47.setTop (mkF m 239 #[.val (.int p0), .val (.int p1), .val (.int p2), .val (.int p3), .val (.int p4), .val (.int (0 : Int32)), .val (.int d0), .val (.int d1), .val (.int d2), .val (.ref b4), .val (.ref b19), .val (.int (own_am [] [(own_cnt p4 (0 : Int32)), (own_cnt p4 (1 : Int32)), (own_cnt p4 (2 : Int32)), (own_cnt p4 (3 : Int32)), (own_cnt p4 (4 : Int32)), (own_cnt p4 (5 : Int32)), (own_cnt p4 (6 : Int32))])), .unset, .unset, .unset] [(.int (1 : Int32))])) (fun t k => ?_) ?_
          · show Steps p.tables e below (T47.setTop (mkF m 231 #[.val (.int p0), .val (.int p1), .val (.int p2), .val (.int p3), .val (.int p4), .val (.int (0 : Int32)), .val (.int d0), .val (.int d1), .val (.int d2), .val (.ref b4), .val (.ref b19), .val (.int (own_am [] [(own_cnt p4 (0 : Int32)), (own_cnt p4 (1 : Int32)), (own_cnt p4 (2 : Int32)), (own_cnt p4 (3 : Int32)), (own_cnt p4 (4 : Int32)), (own_cnt p4 (5 : Int32)), (own_cnt p4 (6 : Int32))])), .unset, .unset, .unset] [(.int (own_fits (2 : Int32) (0 : Int32) d0 d1 d2 p4))])) t
            refine XS.ifNo X47.here hx rfl (hb hby at_231) rfl ((if0 _ _).trans (feq hc48).1) ?_
            refine XS.iconst X47.here hx rfl (hb hby at_234) ?_
            refine XS.goto X47.here hx rfl (pc0 := 235) (pc' := 239) rfl (hb hby at_235) (by decide) (by decide) ?_
            exact k
          exact joinJ _ _ X47 e47 N47 _ (by rw [own_law0 d0 d1 d2]; simp only [if_neg hc44, if_neg hc46, if_neg hc48])
  · skip
    refine own_go (B := s₁.setTop (mkF m 3 #[.val (.int p0), .val (.int p1), .val (.int p2), .val (.int p3), .val (.int p4), .unset, .unset, .unset, .unset, .unset, .unset, .unset, .unset, .unset, .unset] [(.int (1 : Int32))])) (fun t k => (congrArg (fun z => Steps p.tables e below (s₁.setTop (mkF m 3 #[.val (.int p0), .val (.int p1), .val (.int p2), .val (.int p3), .val (.int p4), .unset, .unset, .unset, .unset, .unset, .unset, .unset, .unset, .unset, .unset] [(.int z)])) t) (hn)).mpr k) ?_
    refine own_go (B := s₁.setTop (mkF m 8 #[.val (.int p0), .val (.int p1), .val (.int p2), .val (.int p3), .val (.int p4), .val (.int (1 : Int32)), .unset, .unset, .unset, .unset, .unset, .unset, .unset, .unset, .unset] [(.int (p0 &&& (4 : Int32)))])) (fun t k => ?_) ?_
    · show Steps p.tables e below (s₁.setTop (mkF m 3 #[.val (.int p0), .val (.int p1), .val (.int p2), .val (.int p3), .val (.int p4), .unset, .unset, .unset, .unset, .unset, .unset, .unset, .unset, .unset, .unset] [(.int (1 : Int32))])) t
      refine XS.istore X0.here hx rfl (hb hby at_3) rfl (l' := #[.val (.int p0), .val (.int p1), .val (.int p2), .val (.int p3), .val (.int p4), .val (.int (1 : Int32)), .unset, .unset, .unset, .unset, .unset, .unset, .unset, .unset, .unset]) rfl ?_
      refine XS.iloadN X0.here hx rfl (hb hby at_5) rfl ?_
      refine XS.iconst X0.here hx rfl (hb hby at_6) ?_
      refine XS.iand X0.here hx rfl (hb hby at_7) rfl ?_
      exact k
    refine own_go (B := s₁.setTop (mkF m 19 #[.val (.int p0), .val (.int p1), .val (.int p2), .val (.int p3), .val (.int p4), .val (.int (1 : Int32)), .unset, .unset, .unset, .unset, .unset, .unset, .unset, .unset, .unset] [(.int (if (p0 &&& (4 : Int32)) = (0 : Int32) then (p1 &&& (7 : Int32)) else p1))])) (fun t k => ?_) ?_
    · skip
      show Steps p.tables e below (s₁.setTop (mkF m 8 #[.val (.int p0), .val (.int p1), .val (.int p2), .val (.int p3), .val (.int p4), .val (.int (1 : Int32)), .unset, .unset, .unset, .unset, .unset, .unset, .unset, .unset, .unset] [(.int (p0 &&& (4 : Int32)))])) t
      by_cases hd49 : (p0 &&& (4 : Int32)) = (0 : Int32)
      · refine XS.ifYes X0.here hx rfl (pc0 := 8) (pc' := 15) rfl (hb hby at_8) rfl ((if0 _ _).trans (teq hd49).1) (by decide) (by decide) ?_
        show Steps p.tables e below (s₁.setTop (mkF m 15 #[.val (.int p0), .val (.int p1), .val (.int p2), .val (.int p3), .val (.int p4), .val (.int (1 : Int32)), .unset, .unset, .unset, .unset, .unset, .unset, .unset, .unset, .unset] [])) t
        refine XS.iloadN X0.here hx rfl (hb hby at_15) rfl ?_
        show Steps p.tables e below (s₁.setTop (mkF m 16 #[.val (.int p0), .val (.int p1), .val (.int p2), .val (.int p3), .val (.int p4), .val (.int (1 : Int32)), .unset, .unset, .unset, .unset, .unset, .unset, .unset, .unset, .unset] [(.int p1)])) t
        refine XS.bipush X0.here hx rfl (hb hby at_16) ?_
        show Steps p.tables e below (s₁.setTop (mkF m 18 #[.val (.int p0), .val (.int p1), .val (.int p2), .val (.int p3), .val (.int p4), .val (.int (1 : Int32)), .unset, .unset, .unset, .unset, .unset, .unset, .unset, .unset, .unset] [(.int (7 : Int32)), (.int p1)])) t
        refine XS.iand X0.here hx rfl (hb hby at_18) rfl ?_
        show Steps p.tables e below (s₁.setTop (mkF m 19 #[.val (.int p0), .val (.int p1), .val (.int p2), .val (.int p3), .val (.int p4), .val (.int (1 : Int32)), .unset, .unset, .unset, .unset, .unset, .unset, .unset, .unset, .unset] [(.int (p1 &&& (7 : Int32)))])) t
        exact (congrArg (fun z => Steps p.tables e below (s₁.setTop (mkF m 19 #[.val (.int p0), .val (.int p1), .val (.int p2), .val (.int p3), .val (.int p4), .val (.int (1 : Int32)), .unset, .unset, .unset, .unset, .unset, .unset, .unset, .unset, .unset] [(.int z)])) t) (if_pos hd49)).mp k
      · refine XS.ifNo X0.here hx rfl (hb hby at_8) rfl ((if0 _ _).trans (feq hd49).1) ?_
        show Steps p.tables e below (s₁.setTop (mkF m 11 #[.val (.int p0), .val (.int p1), .val (.int p2), .val (.int p3), .val (.int p4), .val (.int (1 : Int32)), .unset, .unset, .unset, .unset, .unset, .unset, .unset, .unset, .unset] [])) t
        refine XS.iloadN X0.here hx rfl (hb hby at_11) rfl ?_
        show Steps p.tables e below (s₁.setTop (mkF m 12 #[.val (.int p0), .val (.int p1), .val (.int p2), .val (.int p3), .val (.int p4), .val (.int (1 : Int32)), .unset, .unset, .unset, .unset, .unset, .unset, .unset, .unset, .unset] [(.int p1)])) t
        refine XS.goto X0.here hx rfl (pc0 := 12) (pc' := 19) rfl (hb hby at_12) (by decide) (by decide) ?_
        show Steps p.tables e below (s₁.setTop (mkF m 19 #[.val (.int p0), .val (.int p1), .val (.int p2), .val (.int p3), .val (.int p4), .val (.int (1 : Int32)), .unset, .unset, .unset, .unset, .unset, .unset, .unset, .unset, .unset] [(.int p1)])) t
        exact (congrArg (fun z => Steps p.tables e below (s₁.setTop (mkF m 19 #[.val (.int p0), .val (.int p1), .val (.int p2), .val (.int p3), .val (.int p4), .val (.int (1 : Int32)), .unset, .unset, .unset, .unset, .unset, .unset, .unset, .unset, .unset] [(.int z)])) t) (if_neg hd49)).mp k
    obtain ⟨d0, hd0⟩ : ∃ z, z = (if (p0 &&& (4 : Int32)) = (0 : Int32) then (p1 &&& (7 : Int32)) else p1) := ⟨_, rfl⟩
    refine own_go (B := s₁.setTop (mkF m 19 #[.val (.int p0), .val (.int p1), .val (.int p2), .val (.int p3), .val (.int p4), .val (.int (1 : Int32)), .unset, .unset, .unset, .unset, .unset, .unset, .unset, .unset, .unset] [(.int d0)])) (fun t k => (congrArg (fun z => Steps p.tables e below (s₁.setTop (mkF m 19 #[.val (.int p0), .val (.int p1), .val (.int p2), .val (.int p3), .val (.int p4), .val (.int (1 : Int32)), .unset, .unset, .unset, .unset, .unset, .unset, .unset, .unset, .unset] [(.int z)])) t) (hd0.symm)).mpr k) ?_
    refine own_go (B := s₁.setTop (mkF m 25 #[.val (.int p0), .val (.int p1), .val (.int p2), .val (.int p3), .val (.int p4), .val (.int (1 : Int32)), .val (.int d0), .unset, .unset, .unset, .unset, .unset, .unset, .unset, .unset] [(.int (p0 &&& (8 : Int32)))])) (fun t k => ?_) ?_
    · show Steps p.tables e below (s₁.setTop (mkF m 19 #[.val (.int p0), .val (.int p1), .val (.int p2), .val (.int p3), .val (.int p4), .val (.int (1 : Int32)), .unset, .unset, .unset, .unset, .unset, .unset, .unset, .unset, .unset] [(.int d0)])) t
      refine XS.istore X0.here hx rfl (hb hby at_19) rfl (l' := #[.val (.int p0), .val (.int p1), .val (.int p2), .val (.int p3), .val (.int p4), .val (.int (1 : Int32)), .val (.int d0), .unset, .unset, .unset, .unset, .unset, .unset, .unset, .unset]) rfl ?_
      refine XS.iloadN X0.here hx rfl (hb hby at_21) rfl ?_
      refine XS.bipush X0.here hx rfl (hb hby at_22) ?_
      refine XS.iand X0.here hx rfl (hb hby at_24) rfl ?_
      exact k
    refine own_go (B := s₁.setTop (mkF m 36 #[.val (.int p0), .val (.int p1), .val (.int p2), .val (.int p3), .val (.int p4), .val (.int (1 : Int32)), .val (.int d0), .unset, .unset, .unset, .unset, .unset, .unset, .unset, .unset] [(.int (if (p0 &&& (8 : Int32)) = (0 : Int32) then (p2 &&& (7 : Int32)) else p2))])) (fun t k => ?_) ?_
    · skip
      show Steps p.tables e below (s₁.setTop (mkF m 25 #[.val (.int p0), .val (.int p1), .val (.int p2), .val (.int p3), .val (.int p4), .val (.int (1 : Int32)), .val (.int d0), .unset, .unset, .unset, .unset, .unset, .unset, .unset, .unset] [(.int (p0 &&& (8 : Int32)))])) t
      by_cases hd50 : (p0 &&& (8 : Int32)) = (0 : Int32)
      · refine XS.ifYes X0.here hx rfl (pc0 := 25) (pc' := 32) rfl (hb hby at_25) rfl ((if0 _ _).trans (teq hd50).1) (by decide) (by decide) ?_
        show Steps p.tables e below (s₁.setTop (mkF m 32 #[.val (.int p0), .val (.int p1), .val (.int p2), .val (.int p3), .val (.int p4), .val (.int (1 : Int32)), .val (.int d0), .unset, .unset, .unset, .unset, .unset, .unset, .unset, .unset] [])) t
        refine XS.iloadN X0.here hx rfl (hb hby at_32) rfl ?_
        show Steps p.tables e below (s₁.setTop (mkF m 33 #[.val (.int p0), .val (.int p1), .val (.int p2), .val (.int p3), .val (.int p4), .val (.int (1 : Int32)), .val (.int d0), .unset, .unset, .unset, .unset, .unset, .unset, .unset, .unset] [(.int p2)])) t
        refine XS.bipush X0.here hx rfl (hb hby at_33) ?_
        show Steps p.tables e below (s₁.setTop (mkF m 35 #[.val (.int p0), .val (.int p1), .val (.int p2), .val (.int p3), .val (.int p4), .val (.int (1 : Int32)), .val (.int d0), .unset, .unset, .unset, .unset, .unset, .unset, .unset, .unset] [(.int (7 : Int32)), (.int p2)])) t
        refine XS.iand X0.here hx rfl (hb hby at_35) rfl ?_
        show Steps p.tables e below (s₁.setTop (mkF m 36 #[.val (.int p0), .val (.int p1), .val (.int p2), .val (.int p3), .val (.int p4), .val (.int (1 : Int32)), .val (.int d0), .unset, .unset, .unset, .unset, .unset, .unset, .unset, .unset] [(.int (p2 &&& (7 : Int32)))])) t
        exact (congrArg (fun z => Steps p.tables e below (s₁.setTop (mkF m 36 #[.val (.int p0), .val (.int p1), .val (.int p2), .val (.int p3), .val (.int p4), .val (.int (1 : Int32)), .val (.int d0), .unset, .unset, .unset, .unset, .unset, .unset, .unset, .unset] [(.int z)])) t) (if_pos hd50)).mp k
      · refine XS.ifNo X0.here hx rfl (hb hby at_25) rfl ((if0 _ _).trans (feq hd50).1) ?_
        show Steps p.tables e below (s₁.setTop (mkF m 28 #[.val (.int p0), .val (.int p1), .val (.int p2), .val (.int p3), .val (.int p4), .val (.int (1 : Int32)), .val (.int d0), .unset, .unset, .unset, .unset, .unset, .unset, .unset, .unset] [])) t
        refine XS.iloadN X0.here hx rfl (hb hby at_28) rfl ?_
        show Steps p.tables e below (s₁.setTop (mkF m 29 #[.val (.int p0), .val (.int p1), .val (.int p2), .val (.int p3), .val (.int p4), .val (.int (1 : Int32)), .val (.int d0), .unset, .unset, .unset, .unset, .unset, .unset, .unset, .unset] [(.int p2)])) t
        refine XS.goto X0.here hx rfl (pc0 := 29) (pc' := 36) rfl (hb hby at_29) (by decide) (by decide) ?_
        show Steps p.tables e below (s₁.setTop (mkF m 36 #[.val (.int p0), .val (.int p1), .val (.int p2), .val (.int p3), .val (.int p4), .val (.int (1 : Int32)), .val (.int d0), .unset, .unset, .unset, .unset, .unset, .unset, .unset, .unset] [(.int p2)])) t
        exact (congrArg (fun z => Steps p.tables e below (s₁.setTop (mkF m 36 #[.val (.int p0), .val (.int p1), .val (.int p2), .val (.int p3), .val (.int p4), .val (.int (1 : Int32)), .val (.int d0), .unset, .unset, .unset, .unset, .unset, .unset, .unset, .unset] [(.int z)])) t) (if_neg hd50)).mp k
    obtain ⟨d1, hd1⟩ : ∃ z, z = (if (p0 &&& (8 : Int32)) = (0 : Int32) then (p2 &&& (7 : Int32)) else p2) := ⟨_, rfl⟩
    refine own_go (B := s₁.setTop (mkF m 36 #[.val (.int p0), .val (.int p1), .val (.int p2), .val (.int p3), .val (.int p4), .val (.int (1 : Int32)), .val (.int d0), .unset, .unset, .unset, .unset, .unset, .unset, .unset, .unset] [(.int d1)])) (fun t k => (congrArg (fun z => Steps p.tables e below (s₁.setTop (mkF m 36 #[.val (.int p0), .val (.int p1), .val (.int p2), .val (.int p3), .val (.int p4), .val (.int (1 : Int32)), .val (.int d0), .unset, .unset, .unset, .unset, .unset, .unset, .unset, .unset] [(.int z)])) t) (hd1.symm)).mpr k) ?_
    refine own_go (B := s₁.setTop (mkF m 42 #[.val (.int p0), .val (.int p1), .val (.int p2), .val (.int p3), .val (.int p4), .val (.int (1 : Int32)), .val (.int d0), .val (.int d1), .unset, .unset, .unset, .unset, .unset, .unset, .unset] [(.int (p0 &&& (16 : Int32)))])) (fun t k => ?_) ?_
    · show Steps p.tables e below (s₁.setTop (mkF m 36 #[.val (.int p0), .val (.int p1), .val (.int p2), .val (.int p3), .val (.int p4), .val (.int (1 : Int32)), .val (.int d0), .unset, .unset, .unset, .unset, .unset, .unset, .unset, .unset] [(.int d1)])) t
      refine XS.istore X0.here hx rfl (hb hby at_36) rfl (l' := #[.val (.int p0), .val (.int p1), .val (.int p2), .val (.int p3), .val (.int p4), .val (.int (1 : Int32)), .val (.int d0), .val (.int d1), .unset, .unset, .unset, .unset, .unset, .unset, .unset]) rfl ?_
      refine XS.iloadN X0.here hx rfl (hb hby at_38) rfl ?_
      refine XS.bipush X0.here hx rfl (hb hby at_39) ?_
      refine XS.iand X0.here hx rfl (hb hby at_41) rfl ?_
      exact k
    refine own_go (B := s₁.setTop (mkF m 53 #[.val (.int p0), .val (.int p1), .val (.int p2), .val (.int p3), .val (.int p4), .val (.int (1 : Int32)), .val (.int d0), .val (.int d1), .unset, .unset, .unset, .unset, .unset, .unset, .unset] [(.int (if (p0 &&& (16 : Int32)) = (0 : Int32) then (p3 &&& (7 : Int32)) else p3))])) (fun t k => ?_) ?_
    · skip
      show Steps p.tables e below (s₁.setTop (mkF m 42 #[.val (.int p0), .val (.int p1), .val (.int p2), .val (.int p3), .val (.int p4), .val (.int (1 : Int32)), .val (.int d0), .val (.int d1), .unset, .unset, .unset, .unset, .unset, .unset, .unset] [(.int (p0 &&& (16 : Int32)))])) t
      by_cases hd51 : (p0 &&& (16 : Int32)) = (0 : Int32)
      · refine XS.ifYes X0.here hx rfl (pc0 := 42) (pc' := 49) rfl (hb hby at_42) rfl ((if0 _ _).trans (teq hd51).1) (by decide) (by decide) ?_
        show Steps p.tables e below (s₁.setTop (mkF m 49 #[.val (.int p0), .val (.int p1), .val (.int p2), .val (.int p3), .val (.int p4), .val (.int (1 : Int32)), .val (.int d0), .val (.int d1), .unset, .unset, .unset, .unset, .unset, .unset, .unset] [])) t
        refine XS.iloadN X0.here hx rfl (hb hby at_49) rfl ?_
        show Steps p.tables e below (s₁.setTop (mkF m 50 #[.val (.int p0), .val (.int p1), .val (.int p2), .val (.int p3), .val (.int p4), .val (.int (1 : Int32)), .val (.int d0), .val (.int d1), .unset, .unset, .unset, .unset, .unset, .unset, .unset] [(.int p3)])) t
        refine XS.bipush X0.here hx rfl (hb hby at_50) ?_
        show Steps p.tables e below (s₁.setTop (mkF m 52 #[.val (.int p0), .val (.int p1), .val (.int p2), .val (.int p3), .val (.int p4), .val (.int (1 : Int32)), .val (.int d0), .val (.int d1), .unset, .unset, .unset, .unset, .unset, .unset, .unset] [(.int (7 : Int32)), (.int p3)])) t
        refine XS.iand X0.here hx rfl (hb hby at_52) rfl ?_
        show Steps p.tables e below (s₁.setTop (mkF m 53 #[.val (.int p0), .val (.int p1), .val (.int p2), .val (.int p3), .val (.int p4), .val (.int (1 : Int32)), .val (.int d0), .val (.int d1), .unset, .unset, .unset, .unset, .unset, .unset, .unset] [(.int (p3 &&& (7 : Int32)))])) t
        exact (congrArg (fun z => Steps p.tables e below (s₁.setTop (mkF m 53 #[.val (.int p0), .val (.int p1), .val (.int p2), .val (.int p3), .val (.int p4), .val (.int (1 : Int32)), .val (.int d0), .val (.int d1), .unset, .unset, .unset, .unset, .unset, .unset, .unset] [(.int z)])) t) (if_pos hd51)).mp k
      · refine XS.ifNo X0.here hx rfl (hb hby at_42) rfl ((if0 _ _).trans (feq hd51).1) ?_
        show Steps p.tables e below (s₁.setTop (mkF m 45 #[.val (.int p0), .val (.int p1), .val (.int p2), .val (.int p3), .val (.int p4), .val (.int (1 : Int32)), .val (.int d0), .val (.int d1), .unset, .unset, .unset, .unset, .unset, .unset, .unset] [])) t
        refine XS.iloadN X0.here hx rfl (hb hby at_45) rfl ?_
        show Steps p.tables e below (s₁.setTop (mkF m 46 #[.val (.int p0), .val (.int p1), .val (.int p2), .val (.int p3), .val (.int p4), .val (.int (1 : Int32)), .val (.int d0), .val (.int d1), .unset, .unset, .unset, .unset, .unset, .unset, .unset] [(.int p3)])) t
        refine XS.goto X0.here hx rfl (pc0 := 46) (pc' := 53) rfl (hb hby at_46) (by decide) (by decide) ?_
        show Steps p.tables e below (s₁.setTop (mkF m 53 #[.val (.int p0), .val (.int p1), .val (.int p2), .val (.int p3), .val (.int p4), .val (.int (1 : Int32)), .val (.int d0), .val (.int d1), .unset, .unset, .unset, .unset, .unset, .unset, .unset] [(.int p3)])) t
        exact (congrArg (fun z => Steps p.tables e below (s₁.setTop (mkF m 53 #[.val (.int p0), .val (.int p1), .val (.int p2), .val (.int p3), .val (.int p4), .val (.int (1 : Int32)), .val (.int d0), .val (.int d1), .unset, .unset, .unset, .unset, .unset, .unset, .unset] [(.int z)])) t) (if_neg hd51)).mp k
    obtain ⟨d2, hd2⟩ : ∃ z, z = (if (p0 &&& (16 : Int32)) = (0 : Int32) then (p3 &&& (7 : Int32)) else p3) := ⟨_, rfl⟩
    refine own_go (B := s₁.setTop (mkF m 53 #[.val (.int p0), .val (.int p1), .val (.int p2), .val (.int p3), .val (.int p4), .val (.int (1 : Int32)), .val (.int d0), .val (.int d1), .unset, .unset, .unset, .unset, .unset, .unset, .unset] [(.int d2)])) (fun t k => (congrArg (fun z => Steps p.tables e below (s₁.setTop (mkF m 53 #[.val (.int p0), .val (.int p1), .val (.int p2), .val (.int p3), .val (.int p4), .val (.int (1 : Int32)), .val (.int d0), .val (.int d1), .unset, .unset, .unset, .unset, .unset, .unset, .unset] [(.int z)])) t) (hd2.symm)).mpr k) ?_
    refine own_go (B := s₁.setTop (mkF m 57 #[.val (.int p0), .val (.int p1), .val (.int p2), .val (.int p3), .val (.int p4), .val (.int (1 : Int32)), .val (.int d0), .val (.int d1), .val (.int d2), .unset, .unset, .unset, .unset, .unset, .unset] [(.int (7 : Int32))])) (fun t k => ?_) ?_
    · show Steps p.tables e below (s₁.setTop (mkF m 53 #[.val (.int p0), .val (.int p1), .val (.int p2), .val (.int p3), .val (.int p4), .val (.int (1 : Int32)), .val (.int d0), .val (.int d1), .unset, .unset, .unset, .unset, .unset, .unset, .unset] [(.int d2)])) t
      refine XS.istore X0.here hx rfl (hb hby at_53) rfl (l' := #[.val (.int p0), .val (.int p1), .val (.int p2), .val (.int p3), .val (.int p4), .val (.int (1 : Int32)), .val (.int d0), .val (.int d1), .val (.int d2), .unset, .unset, .unset, .unset, .unset, .unset]) rfl ?_
      refine XS.bipush X0.here hx rfl (hb hby at_55) ?_
      exact k
    obtain ⟨T52, h52, k52, X52, e52, E52, A52, EA52, st52⟩ := newPE X0 hx hZ (hw _ (List.mem_of_getElem? (i := 0) rfl)) e0 (g := (mkF m 57 #[.val (.int p0), .val (.int p1), .val (.int p2), .val (.int p3), .val (.int p4), .val (.int (1 : Int32)), .val (.int d0), .val (.int d1), .val (.int d2), .unset, .unset, .unset, .unset, .unset, .unset] [(.int (7 : Int32))])) rfl (hb hby at_57) rfl (by decide) (cap := 7) (by decide) (by decide) (by decide) (by decide) (ad := "[I") (by decide)
    obtain ⟨b52, g52⟩ : ∃ z, z = h0.size := ⟨_, rfl⟩
    rw [← g52] at A52 EA52 st52
    have g_b52 : n0 ≤ b52 := by rw [g52]; exact Z0
    have sz_b52 : h0.size ≤ b52 := by rw [g52]; exact K0.1
    have K52 : Keep h0 h52 [] := K0.ext E52
    have X52 : Stand p l e room_1 s m #[(.int p0), (.int p1), (.int p2), (.int p3), (.int p4)] below meth c T52 _ 1 7 := X52
    have V_b52 : Arv Z h52 b52 k52 .int (7 : Int32) [(.int (0 : Int32)), (.int (0 : Int32)), (.int (0 : Int32)), (.int (0 : Int32)), (.int (0 : Int32)), (.int (0 : Int32)), (.int (0 : Int32))] (.int (0 : Int32)) := (Arv.new A52 (by decide)).pad (pad_rep [] (.int (0 : Int32)) 7)
    refine own_go st52 ?_
    show own_Fin p.tables e below (T52.setTop (mkF m 59 #[.val (.int p0), .val (.int p1), .val (.int p2), .val (.int p3), .val (.int p4), .val (.int (1 : Int32)), .val (.int d0), .val (.int d1), .val (.int d2), .unset, .unset, .unset, .unset, .unset, .unset] [(.ref b52)])) _
    refine own_go (B := T52.setTop (mkF m 67 #[.val (.int p0), .val (.int p1), .val (.int p2), .val (.int p3), .val (.int p4), .val (.int (1 : Int32)), .val (.int d0), .val (.int d1), .val (.int d2), .val (.ref b52), .unset, .unset, .unset, .unset, .unset] [(.int (0 : Int32)), (.int p4), (.int (0 : Int32)), (.ref b52)])) (fun t k => ?_) ?_
    · show Steps p.tables e below (T52.setTop (mkF m 59 #[.val (.int p0), .val (.int p1), .val (.int p2), .val (.int p3), .val (.int p4), .val (.int (1 : Int32)), .val (.int d0), .val (.int d1), .val (.int d2), .unset, .unset, .unset, .unset, .unset, .unset] [(.ref b52)])) t
      refine XS.astore X52.here hx rfl (hb hby at_59) rfl rfl (l' := #[.val (.int p0), .val (.int p1), .val (.int p2), .val (.int p3), .val (.int p4), .val (.int (1 : Int32)), .val (.int d0), .val (.int d1), .val (.int d2), .val (.ref b52), .unset, .unset, .unset, .unset, .unset]) rfl ?_
      refine XS.aload X52.here hx rfl (hb hby at_61) rfl rfl ?_
      refine XS.iconst X52.here hx rfl (hb hby at_63) ?_
      refine XS.iload X52.here hx rfl (hb hby at_64) rfl ?_
      show Steps p.tables e below (T52.setTop (mkF m 66 #[.val (.int p0), .val (.int p1), .val (.int p2), .val (.int p3), .val (.int p4), .val (.int (1 : Int32)), .val (.int d0), .val (.int d1), .val (.int d2), .val (.ref b52), .unset, .unset, .unset, .unset, .unset] [(.int p4), (.int (0 : Int32)), (.ref b52)])) t
      refine XS.iconst X52.here hx rfl (hb hby at_66) ?_
      exact k
    obtain ⟨_, _, ⟨T53, L53, k53, n53⟩, -, X53, ⟨Lc53, hQ53, l53, y53, z53⟩, st53⟩ := Jvm.LawKit.callS X52 hx (y := (⟨"com/example/rollhaus/rollhaus/dice/FacesAmongPinLaw", "cnt", "(II)I"⟩ : MethodName)) hown (mvT hZ (hw _ (List.mem_of_getElem? (i := 1) rfl))) (mvT hZ (hw _ (List.mem_of_getElem? (i := 2) rfl))) (mvT hZ (hw _ (List.mem_of_getElem? (i := 3) rfl))) (mvT hZ (hw _ (List.mem_of_getElem? (i := 4) rfl))) (by decide) (backOf (W := 2) (rm1 l Z a0 hw [] p4 (0 : Int32)  h52 n0 (Nat.le_trans Z0 K52.1) ) hZ (hw _ (List.mem_of_getElem? (i := 4) rfl)) (hw _ (List.mem_of_getElem? (i := 3) rfl)) (by decide) (by decide)) (g := (mkF m 67 #[.val (.int p0), .val (.int p1), .val (.int p2), .val (.int p3), .val (.int p4), .val (.int (1 : Int32)), .val (.int d0), .val (.int d1), .val (.int d2), .val (.ref b52), .unset, .unset, .unset, .unset, .unset] [(.int (0 : Int32)), (.int p4), (.int (0 : Int32)), (.ref b52)])) rfl (by rw [hml]; rfl) (argsL := [(.int p4), (.int (0 : Int32))]) (rest := [(.int (0 : Int32)), (.ref b52)]) (lenOf pd0_0 rfl) rfl (by show 2 * 0 + _ ≤ _; exact Nat.le_of_eq rfl) (hb hby at_67) (fun _ _ => ⟨rfl, e52, (by decide : 1 + 0 ≤ _), (by decide : 7 + 0 ≤ _)⟩)
    dsimp only [Pt.U, Pt.locs, Pt.cells, Pt.slots] at X53 l53 y53 z53 st53 hQ53
    subst y53 z53
    have X53 : Stand p l e room_1 s m #[(.int p0), (.int p1), (.int p2), (.int p3), (.int p4)] below meth c T53 _ 1 7 := X53
    obtain ⟨rfl, N53q, e53⟩ := hQ53
    have N53 : Fr n0 L53 := by rw [l53]; exact Fr.app N0 N53q
    refine own_go (st53) ?_
    show own_Fin p.tables e below (T53.setTop (mkF m 70 #[.val (.int p0), .val (.int p1), .val (.int p2), .val (.int p3), .val (.int p4), .val (.int (1 : Int32)), .val (.int d0), .val (.int d1), .val (.int d2), .val (.ref b52), .unset, .unset, .unset, .unset, .unset] [(.int (own_cnt p4 (0 : Int32))), (.int (0 : Int32)), (.ref b52)])) _
    obtain ⟨cl54, Ar54, q54, S54, M54, Ha54, G54⟩ := id V_b52
    have hin54 : ¬ ((0 : Int32) < 0 ∨ cl54.slots.size ≤ ((0 : Int32)).toNatClampNeg) := inb_of S54 ⟨by decide, by decide⟩
    obtain ⟨T54, h54, X54, e54, W54, st54⟩ := stI X53 hx hZ e53 Ar54 (j := (0 : Int32)) hin54 (g := (mkF m 70 #[.val (.int p0), .val (.int p1), .val (.int p2), .val (.int p3), .val (.int p4), .val (.int (1 : Int32)), .val (.int d0), .val (.int d1), .val (.int d2), .val (.ref b52), .unset, .unset, .unset, .unset, .unset] [(.int (own_cnt p4 (0 : Int32))), (.int (0 : Int32)), (.ref b52)])) rfl rfl (hb hby at_70)
    have N54 := Fr.snoc X54 N53 g_b52
    have K54 : Keep h0 h54 [] := K52.wr W54 (Or.inr sz_b52)
    have V54 : Arv Z h54 b52 k52 .int (7 : Int32) [(.int (own_cnt p4 (0 : Int32))), (.int (0 : Int32)), (.int (0 : Int32)), (.int (0 : Int32)), (.int (0 : Int32)), (.int (0 : Int32)), (.int (0 : Int32))] (.int (0 : Int32)) := Arv.set Ar54 q54 S54 M54 Ha54 G54 rfl W54 0 rfl (Nat.le_of_ble_eq_true rfl)
    refine own_go st54 ?_
    show own_Fin p.tables e below (T54.setTop (mkF m 71 #[.val (.int p0), .val (.int p1), .val (.int p2), .val (.int p3), .val (.int p4), .val (.int (1 : Int32)), .val (.int d0), .val (.int d1), .val (.int d2), .val (.ref b52), .unset, .unset, .unset, .unset, .unset] [])) _
    refine own_go (B := T54.setTop (mkF m 77 #[.val (.int p0), .val (.int p1), .val (.int p2), .val (.int p3), .val (.int p4), .val (.int (1 : Int32)), .val (.int d0), .val (.int d1), .val (.int d2), .val (.ref b52), .unset, .unset, .unset, .unset, .unset] [(.int (1 : Int32)), (.int p4), (.int (1 : Int32)), (.ref b52)])) (fun t k => ?_) ?_
    · show Steps p.tables e below (T54.setTop (mkF m 71 #[.val (.int p0), .val (.int p1), .val (.int p2), .val (.int p3), .val (.int p4), .val (.int (1 : Int32)), .val (.int d0), .val (.int d1), .val (.int d2), .val (.ref b52), .unset, .unset, .unset, .unset, .unset] [])) t
      refine XS.aload X54.here hx rfl (hb hby at_71) rfl rfl ?_
      refine XS.iconst X54.here hx rfl (hb hby at_73) ?_
      refine XS.iload X54.here hx rfl (hb hby at_74) rfl ?_
      refine XS.iconst X54.here hx rfl (hb hby at_76) ?_
      exact k
    obtain ⟨_, _, ⟨T55, L55, k55, n55⟩, -, X55, ⟨Lc55, hQ55, l55, y55, z55⟩, st55⟩ := Jvm.LawKit.callS X54 hx (y := (⟨"com/example/rollhaus/rollhaus/dice/FacesAmongPinLaw", "cnt", "(II)I"⟩ : MethodName)) hown (mvT hZ (hw _ (List.mem_of_getElem? (i := 1) rfl))) (mvT hZ (hw _ (List.mem_of_getElem? (i := 2) rfl))) (mvT hZ (hw _ (List.mem_of_getElem? (i := 3) rfl))) (mvT hZ (hw _ (List.mem_of_getElem? (i := 4) rfl))) (by decide) (backOf (W := 2) (rm1 l Z a0 hw [] p4 (1 : Int32)  h54 n0 (Nat.le_trans Z0 K54.1) ) hZ (hw _ (List.mem_of_getElem? (i := 4) rfl)) (hw _ (List.mem_of_getElem? (i := 3) rfl)) (by decide) (by decide)) (g := (mkF m 77 #[.val (.int p0), .val (.int p1), .val (.int p2), .val (.int p3), .val (.int p4), .val (.int (1 : Int32)), .val (.int d0), .val (.int d1), .val (.int d2), .val (.ref b52), .unset, .unset, .unset, .unset, .unset] [(.int (1 : Int32)), (.int p4), (.int (1 : Int32)), (.ref b52)])) rfl (by rw [hml]; rfl) (argsL := [(.int p4), (.int (1 : Int32))]) (rest := [(.int (1 : Int32)), (.ref b52)]) (lenOf pd0_0 rfl) rfl (by show 2 * 0 + _ ≤ _; exact Nat.le_of_eq rfl) (hb hby at_77) (fun _ _ => ⟨rfl, e54, (by decide : 1 + 0 ≤ _), (by decide : 7 + 0 ≤ _)⟩)
    dsimp only [Pt.U, Pt.locs, Pt.cells, Pt.slots] at X55 l55 y55 z55 st55 hQ55
    subst y55 z55
    have X55 : Stand p l e room_1 s m #[(.int p0), (.int p1), (.int p2), (.int p3), (.int p4)] below meth c T55 _ 1 7 := X55
    obtain ⟨rfl, N55q, e55⟩ := hQ55
    have N55 : Fr n0 L55 := by rw [l55]; exact Fr.app N54 N55q
    refine own_go (st55) ?_
    show own_Fin p.tables e below (T55.setTop (mkF m 80 #[.val (.int p0), .val (.int p1), .val (.int p2), .val (.int p3), .val (.int p4), .val (.int (1 : Int32)), .val (.int d0), .val (.int d1), .val (.int d2), .val (.ref b52), .unset, .unset, .unset, .unset, .unset] [(.int (own_cnt p4 (1 : Int32))), (.int (1 : Int32)), (.ref b52)])) _
    obtain ⟨cl56, Ar56, q56, S56, M56, Ha56, G56⟩ := id V54
    have hin56 : ¬ ((1 : Int32) < 0 ∨ cl56.slots.size ≤ ((1 : Int32)).toNatClampNeg) := inb_of S56 ⟨by decide, by decide⟩
    obtain ⟨T56, h56, X56, e56, W56, st56⟩ := stI X55 hx hZ e55 Ar56 (j := (1 : Int32)) hin56 (g := (mkF m 80 #[.val (.int p0), .val (.int p1), .val (.int p2), .val (.int p3), .val (.int p4), .val (.int (1 : Int32)), .val (.int d0), .val (.int d1), .val (.int d2), .val (.ref b52), .unset, .unset, .unset, .unset, .unset] [(.int (own_cnt p4 (1 : Int32))), (.int (1 : Int32)), (.ref b52)])) rfl rfl (hb hby at_80)
    have N56 := Fr.snoc X56 N55 g_b52
    have K56 : Keep h0 h56 [] := K54.wr W56 (Or.inr sz_b52)
    have V56 : Arv Z h56 b52 k52 .int (7 : Int32) [(.int (own_cnt p4 (0 : Int32))), (.int (own_cnt p4 (1 : Int32))), (.int (0 : Int32)), (.int (0 : Int32)), (.int (0 : Int32)), (.int (0 : Int32)), (.int (0 : Int32))] (.int (0 : Int32)) := Arv.set Ar56 q56 S56 M56 Ha56 G56 rfl W56 1 rfl (Nat.le_of_ble_eq_true rfl)
    refine own_go st56 ?_
    show own_Fin p.tables e below (T56.setTop (mkF m 81 #[.val (.int p0), .val (.int p1), .val (.int p2), .val (.int p3), .val (.int p4), .val (.int (1 : Int32)), .val (.int d0), .val (.int d1), .val (.int d2), .val (.ref b52), .unset, .unset, .unset, .unset, .unset] [])) _
    refine own_go (B := T56.setTop (mkF m 87 #[.val (.int p0), .val (.int p1), .val (.int p2), .val (.int p3), .val (.int p4), .val (.int (1 : Int32)), .val (.int d0), .val (.int d1), .val (.int d2), .val (.ref b52), .unset, .unset, .unset, .unset, .unset] [(.int (2 : Int32)), (.int p4), (.int (2 : Int32)), (.ref b52)])) (fun t k => ?_) ?_
    · show Steps p.tables e below (T56.setTop (mkF m 81 #[.val (.int p0), .val (.int p1), .val (.int p2), .val (.int p3), .val (.int p4), .val (.int (1 : Int32)), .val (.int d0), .val (.int d1), .val (.int d2), .val (.ref b52), .unset, .unset, .unset, .unset, .unset] [])) t
      refine XS.aload X56.here hx rfl (hb hby at_81) rfl rfl ?_
      refine XS.iconst X56.here hx rfl (hb hby at_83) ?_
      refine XS.iload X56.here hx rfl (hb hby at_84) rfl ?_
      refine XS.iconst X56.here hx rfl (hb hby at_86) ?_
      exact k
    obtain ⟨_, _, ⟨T57, L57, k57, n57⟩, -, X57, ⟨Lc57, hQ57, l57, y57, z57⟩, st57⟩ := Jvm.LawKit.callS X56 hx (y := (⟨"com/example/rollhaus/rollhaus/dice/FacesAmongPinLaw", "cnt", "(II)I"⟩ : MethodName)) hown (mvT hZ (hw _ (List.mem_of_getElem? (i := 1) rfl))) (mvT hZ (hw _ (List.mem_of_getElem? (i := 2) rfl))) (mvT hZ (hw _ (List.mem_of_getElem? (i := 3) rfl))) (mvT hZ (hw _ (List.mem_of_getElem? (i := 4) rfl))) (by decide) (backOf (W := 2) (rm1 l Z a0 hw [] p4 (2 : Int32)  h56 n0 (Nat.le_trans Z0 K56.1) ) hZ (hw _ (List.mem_of_getElem? (i := 4) rfl)) (hw _ (List.mem_of_getElem? (i := 3) rfl)) (by decide) (by decide)) (g := (mkF m 87 #[.val (.int p0), .val (.int p1), .val (.int p2), .val (.int p3), .val (.int p4), .val (.int (1 : Int32)), .val (.int d0), .val (.int d1), .val (.int d2), .val (.ref b52), .unset, .unset, .unset, .unset, .unset] [(.int (2 : Int32)), (.int p4), (.int (2 : Int32)), (.ref b52)])) rfl (by rw [hml]; rfl) (argsL := [(.int p4), (.int (2 : Int32))]) (rest := [(.int (2 : Int32)), (.ref b52)]) (lenOf pd0_0 rfl) rfl (by show 2 * 0 + _ ≤ _; exact Nat.le_of_eq rfl) (hb hby at_87) (fun _ _ => ⟨rfl, e56, (by decide : 1 + 0 ≤ _), (by decide : 7 + 0 ≤ _)⟩)
    dsimp only [Pt.U, Pt.locs, Pt.cells, Pt.slots] at X57 l57 y57 z57 st57 hQ57
    subst y57 z57
    have X57 : Stand p l e room_1 s m #[(.int p0), (.int p1), (.int p2), (.int p3), (.int p4)] below meth c T57 _ 1 7 := X57
    obtain ⟨rfl, N57q, e57⟩ := hQ57
    have N57 : Fr n0 L57 := by rw [l57]; exact Fr.app N56 N57q
    refine own_go (st57) ?_
    show own_Fin p.tables e below (T57.setTop (mkF m 90 #[.val (.int p0), .val (.int p1), .val (.int p2), .val (.int p3), .val (.int p4), .val (.int (1 : Int32)), .val (.int d0), .val (.int d1), .val (.int d2), .val (.ref b52), .unset, .unset, .unset, .unset, .unset] [(.int (own_cnt p4 (2 : Int32))), (.int (2 : Int32)), (.ref b52)])) _
    obtain ⟨cl58, Ar58, q58, S58, M58, Ha58, G58⟩ := id V56
    have hin58 : ¬ ((2 : Int32) < 0 ∨ cl58.slots.size ≤ ((2 : Int32)).toNatClampNeg) := inb_of S58 ⟨by decide, by decide⟩
    obtain ⟨T58, h58, X58, e58, W58, st58⟩ := stI X57 hx hZ e57 Ar58 (j := (2 : Int32)) hin58 (g := (mkF m 90 #[.val (.int p0), .val (.int p1), .val (.int p2), .val (.int p3), .val (.int p4), .val (.int (1 : Int32)), .val (.int d0), .val (.int d1), .val (.int d2), .val (.ref b52), .unset, .unset, .unset, .unset, .unset] [(.int (own_cnt p4 (2 : Int32))), (.int (2 : Int32)), (.ref b52)])) rfl rfl (hb hby at_90)
    have N58 := Fr.snoc X58 N57 g_b52
    have K58 : Keep h0 h58 [] := K56.wr W58 (Or.inr sz_b52)
    have V58 : Arv Z h58 b52 k52 .int (7 : Int32) [(.int (own_cnt p4 (0 : Int32))), (.int (own_cnt p4 (1 : Int32))), (.int (own_cnt p4 (2 : Int32))), (.int (0 : Int32)), (.int (0 : Int32)), (.int (0 : Int32)), (.int (0 : Int32))] (.int (0 : Int32)) := Arv.set Ar58 q58 S58 M58 Ha58 G58 rfl W58 2 rfl (Nat.le_of_ble_eq_true rfl)
    refine own_go st58 ?_
    show own_Fin p.tables e below (T58.setTop (mkF m 91 #[.val (.int p0), .val (.int p1), .val (.int p2), .val (.int p3), .val (.int p4), .val (.int (1 : Int32)), .val (.int d0), .val (.int d1), .val (.int d2), .val (.ref b52), .unset, .unset, .unset, .unset, .unset] [])) _
    refine own_go (B := T58.setTop (mkF m 97 #[.val (.int p0), .val (.int p1), .val (.int p2), .val (.int p3), .val (.int p4), .val (.int (1 : Int32)), .val (.int d0), .val (.int d1), .val (.int d2), .val (.ref b52), .unset, .unset, .unset, .unset, .unset] [(.int (3 : Int32)), (.int p4), (.int (3 : Int32)), (.ref b52)])) (fun t k => ?_) ?_
    · show Steps p.tables e below (T58.setTop (mkF m 91 #[.val (.int p0), .val (.int p1), .val (.int p2), .val (.int p3), .val (.int p4), .val (.int (1 : Int32)), .val (.int d0), .val (.int d1), .val (.int d2), .val (.ref b52), .unset, .unset, .unset, .unset, .unset] [])) t
      refine XS.aload X58.here hx rfl (hb hby at_91) rfl rfl ?_
      refine XS.iconst X58.here hx rfl (hb hby at_93) ?_
      refine XS.iload X58.here hx rfl (hb hby at_94) rfl ?_
      refine XS.iconst X58.here hx rfl (hb hby at_96) ?_
      exact k
    obtain ⟨_, _, ⟨T59, L59, k59, n59⟩, -, X59, ⟨Lc59, hQ59, l59, y59, z59⟩, st59⟩ := Jvm.LawKit.callS X58 hx (y := (⟨"com/example/rollhaus/rollhaus/dice/FacesAmongPinLaw", "cnt", "(II)I"⟩ : MethodName)) hown (mvT hZ (hw _ (List.mem_of_getElem? (i := 1) rfl))) (mvT hZ (hw _ (List.mem_of_getElem? (i := 2) rfl))) (mvT hZ (hw _ (List.mem_of_getElem? (i := 3) rfl))) (mvT hZ (hw _ (List.mem_of_getElem? (i := 4) rfl))) (by decide) (backOf (W := 2) (rm1 l Z a0 hw [] p4 (3 : Int32)  h58 n0 (Nat.le_trans Z0 K58.1) ) hZ (hw _ (List.mem_of_getElem? (i := 4) rfl)) (hw _ (List.mem_of_getElem? (i := 3) rfl)) (by decide) (by decide)) (g := (mkF m 97 #[.val (.int p0), .val (.int p1), .val (.int p2), .val (.int p3), .val (.int p4), .val (.int (1 : Int32)), .val (.int d0), .val (.int d1), .val (.int d2), .val (.ref b52), .unset, .unset, .unset, .unset, .unset] [(.int (3 : Int32)), (.int p4), (.int (3 : Int32)), (.ref b52)])) rfl (by rw [hml]; rfl) (argsL := [(.int p4), (.int (3 : Int32))]) (rest := [(.int (3 : Int32)), (.ref b52)]) (lenOf pd0_0 rfl) rfl (by show 2 * 0 + _ ≤ _; exact Nat.le_of_eq rfl) (hb hby at_97) (fun _ _ => ⟨rfl, e58, (by decide : 1 + 0 ≤ _), (by decide : 7 + 0 ≤ _)⟩)
    dsimp only [Pt.U, Pt.locs, Pt.cells, Pt.slots] at X59 l59 y59 z59 st59 hQ59
    subst y59 z59
    have X59 : Stand p l e room_1 s m #[(.int p0), (.int p1), (.int p2), (.int p3), (.int p4)] below meth c T59 _ 1 7 := X59
    obtain ⟨rfl, N59q, e59⟩ := hQ59
    have N59 : Fr n0 L59 := by rw [l59]; exact Fr.app N58 N59q
    refine own_go (st59) ?_
    show own_Fin p.tables e below (T59.setTop (mkF m 100 #[.val (.int p0), .val (.int p1), .val (.int p2), .val (.int p3), .val (.int p4), .val (.int (1 : Int32)), .val (.int d0), .val (.int d1), .val (.int d2), .val (.ref b52), .unset, .unset, .unset, .unset, .unset] [(.int (own_cnt p4 (3 : Int32))), (.int (3 : Int32)), (.ref b52)])) _
    obtain ⟨cl60, Ar60, q60, S60, M60, Ha60, G60⟩ := id V58
    have hin60 : ¬ ((3 : Int32) < 0 ∨ cl60.slots.size ≤ ((3 : Int32)).toNatClampNeg) := inb_of S60 ⟨by decide, by decide⟩
    obtain ⟨T60, h60, X60, e60, W60, st60⟩ := stI X59 hx hZ e59 Ar60 (j := (3 : Int32)) hin60 (g := (mkF m 100 #[.val (.int p0), .val (.int p1), .val (.int p2), .val (.int p3), .val (.int p4), .val (.int (1 : Int32)), .val (.int d0), .val (.int d1), .val (.int d2), .val (.ref b52), .unset, .unset, .unset, .unset, .unset] [(.int (own_cnt p4 (3 : Int32))), (.int (3 : Int32)), (.ref b52)])) rfl rfl (hb hby at_100)
    have N60 := Fr.snoc X60 N59 g_b52
    have K60 : Keep h0 h60 [] := K58.wr W60 (Or.inr sz_b52)
    have V60 : Arv Z h60 b52 k52 .int (7 : Int32) [(.int (own_cnt p4 (0 : Int32))), (.int (own_cnt p4 (1 : Int32))), (.int (own_cnt p4 (2 : Int32))), (.int (own_cnt p4 (3 : Int32))), (.int (0 : Int32)), (.int (0 : Int32)), (.int (0 : Int32))] (.int (0 : Int32)) := Arv.set Ar60 q60 S60 M60 Ha60 G60 rfl W60 3 rfl (Nat.le_of_ble_eq_true rfl)
    refine own_go st60 ?_
    show own_Fin p.tables e below (T60.setTop (mkF m 101 #[.val (.int p0), .val (.int p1), .val (.int p2), .val (.int p3), .val (.int p4), .val (.int (1 : Int32)), .val (.int d0), .val (.int d1), .val (.int d2), .val (.ref b52), .unset, .unset, .unset, .unset, .unset] [])) _
    refine own_go (B := T60.setTop (mkF m 107 #[.val (.int p0), .val (.int p1), .val (.int p2), .val (.int p3), .val (.int p4), .val (.int (1 : Int32)), .val (.int d0), .val (.int d1), .val (.int d2), .val (.ref b52), .unset, .unset, .unset, .unset, .unset] [(.int (4 : Int32)), (.int p4), (.int (4 : Int32)), (.ref b52)])) (fun t k => ?_) ?_
    · show Steps p.tables e below (T60.setTop (mkF m 101 #[.val (.int p0), .val (.int p1), .val (.int p2), .val (.int p3), .val (.int p4), .val (.int (1 : Int32)), .val (.int d0), .val (.int d1), .val (.int d2), .val (.ref b52), .unset, .unset, .unset, .unset, .unset] [])) t
      refine XS.aload X60.here hx rfl (hb hby at_101) rfl rfl ?_
      refine XS.iconst X60.here hx rfl (hb hby at_103) ?_
      refine XS.iload X60.here hx rfl (hb hby at_104) rfl ?_
      refine XS.iconst X60.here hx rfl (hb hby at_106) ?_
      exact k
    obtain ⟨_, _, ⟨T61, L61, k61, n61⟩, -, X61, ⟨Lc61, hQ61, l61, y61, z61⟩, st61⟩ := Jvm.LawKit.callS X60 hx (y := (⟨"com/example/rollhaus/rollhaus/dice/FacesAmongPinLaw", "cnt", "(II)I"⟩ : MethodName)) hown (mvT hZ (hw _ (List.mem_of_getElem? (i := 1) rfl))) (mvT hZ (hw _ (List.mem_of_getElem? (i := 2) rfl))) (mvT hZ (hw _ (List.mem_of_getElem? (i := 3) rfl))) (mvT hZ (hw _ (List.mem_of_getElem? (i := 4) rfl))) (by decide) (backOf (W := 2) (rm1 l Z a0 hw [] p4 (4 : Int32)  h60 n0 (Nat.le_trans Z0 K60.1) ) hZ (hw _ (List.mem_of_getElem? (i := 4) rfl)) (hw _ (List.mem_of_getElem? (i := 3) rfl)) (by decide) (by decide)) (g := (mkF m 107 #[.val (.int p0), .val (.int p1), .val (.int p2), .val (.int p3), .val (.int p4), .val (.int (1 : Int32)), .val (.int d0), .val (.int d1), .val (.int d2), .val (.ref b52), .unset, .unset, .unset, .unset, .unset] [(.int (4 : Int32)), (.int p4), (.int (4 : Int32)), (.ref b52)])) rfl (by rw [hml]; rfl) (argsL := [(.int p4), (.int (4 : Int32))]) (rest := [(.int (4 : Int32)), (.ref b52)]) (lenOf pd0_0 rfl) rfl (by show 2 * 0 + _ ≤ _; exact Nat.le_of_eq rfl) (hb hby at_107) (fun _ _ => ⟨rfl, e60, (by decide : 1 + 0 ≤ _), (by decide : 7 + 0 ≤ _)⟩)
    dsimp only [Pt.U, Pt.locs, Pt.cells, Pt.slots] at X61 l61 y61 z61 st61 hQ61
    subst y61 z61
    have X61 : Stand p l e room_1 s m #[(.int p0), (.int p1), (.int p2), (.int p3), (.int p4)] below meth c T61 _ 1 7 := X61
    obtain ⟨rfl, N61q, e61⟩ := hQ61
    have N61 : Fr n0 L61 := by rw [l61]; exact Fr.app N60 N61q
    refine own_go (st61) ?_
    show own_Fin p.tables e below (T61.setTop (mkF m 110 #[.val (.int p0), .val (.int p1), .val (.int p2), .val (.int p3), .val (.int p4), .val (.int (1 : Int32)), .val (.int d0), .val (.int d1), .val (.int d2), .val (.ref b52), .unset, .unset, .unset, .unset, .unset] [(.int (own_cnt p4 (4 : Int32))), (.int (4 : Int32)), (.ref b52)])) _
    obtain ⟨cl62, Ar62, q62, S62, M62, Ha62, G62⟩ := id V60
    have hin62 : ¬ ((4 : Int32) < 0 ∨ cl62.slots.size ≤ ((4 : Int32)).toNatClampNeg) := inb_of S62 ⟨by decide, by decide⟩
    obtain ⟨T62, h62, X62, e62, W62, st62⟩ := stI X61 hx hZ e61 Ar62 (j := (4 : Int32)) hin62 (g := (mkF m 110 #[.val (.int p0), .val (.int p1), .val (.int p2), .val (.int p3), .val (.int p4), .val (.int (1 : Int32)), .val (.int d0), .val (.int d1), .val (.int d2), .val (.ref b52), .unset, .unset, .unset, .unset, .unset] [(.int (own_cnt p4 (4 : Int32))), (.int (4 : Int32)), (.ref b52)])) rfl rfl (hb hby at_110)
    have N62 := Fr.snoc X62 N61 g_b52
    have K62 : Keep h0 h62 [] := K60.wr W62 (Or.inr sz_b52)
    have V62 : Arv Z h62 b52 k52 .int (7 : Int32) [(.int (own_cnt p4 (0 : Int32))), (.int (own_cnt p4 (1 : Int32))), (.int (own_cnt p4 (2 : Int32))), (.int (own_cnt p4 (3 : Int32))), (.int (own_cnt p4 (4 : Int32))), (.int (0 : Int32)), (.int (0 : Int32))] (.int (0 : Int32)) := Arv.set Ar62 q62 S62 M62 Ha62 G62 rfl W62 4 rfl (Nat.le_of_ble_eq_true rfl)
    refine own_go st62 ?_
    show own_Fin p.tables e below (T62.setTop (mkF m 111 #[.val (.int p0), .val (.int p1), .val (.int p2), .val (.int p3), .val (.int p4), .val (.int (1 : Int32)), .val (.int d0), .val (.int d1), .val (.int d2), .val (.ref b52), .unset, .unset, .unset, .unset, .unset] [])) _
    refine own_go (B := T62.setTop (mkF m 117 #[.val (.int p0), .val (.int p1), .val (.int p2), .val (.int p3), .val (.int p4), .val (.int (1 : Int32)), .val (.int d0), .val (.int d1), .val (.int d2), .val (.ref b52), .unset, .unset, .unset, .unset, .unset] [(.int (5 : Int32)), (.int p4), (.int (5 : Int32)), (.ref b52)])) (fun t k => ?_) ?_
    · show Steps p.tables e below (T62.setTop (mkF m 111 #[.val (.int p0), .val (.int p1), .val (.int p2), .val (.int p3), .val (.int p4), .val (.int (1 : Int32)), .val (.int d0), .val (.int d1), .val (.int d2), .val (.ref b52), .unset, .unset, .unset, .unset, .unset] [])) t
      refine XS.aload X62.here hx rfl (hb hby at_111) rfl rfl ?_
      refine XS.iconst X62.here hx rfl (hb hby at_113) ?_
      refine XS.iload X62.here hx rfl (hb hby at_114) rfl ?_
      refine XS.iconst X62.here hx rfl (hb hby at_116) ?_
      exact k
    obtain ⟨_, _, ⟨T63, L63, k63, n63⟩, -, X63, ⟨Lc63, hQ63, l63, y63, z63⟩, st63⟩ := Jvm.LawKit.callS X62 hx (y := (⟨"com/example/rollhaus/rollhaus/dice/FacesAmongPinLaw", "cnt", "(II)I"⟩ : MethodName)) hown (mvT hZ (hw _ (List.mem_of_getElem? (i := 1) rfl))) (mvT hZ (hw _ (List.mem_of_getElem? (i := 2) rfl))) (mvT hZ (hw _ (List.mem_of_getElem? (i := 3) rfl))) (mvT hZ (hw _ (List.mem_of_getElem? (i := 4) rfl))) (by decide) (backOf (W := 2) (rm1 l Z a0 hw [] p4 (5 : Int32)  h62 n0 (Nat.le_trans Z0 K62.1) ) hZ (hw _ (List.mem_of_getElem? (i := 4) rfl)) (hw _ (List.mem_of_getElem? (i := 3) rfl)) (by decide) (by decide)) (g := (mkF m 117 #[.val (.int p0), .val (.int p1), .val (.int p2), .val (.int p3), .val (.int p4), .val (.int (1 : Int32)), .val (.int d0), .val (.int d1), .val (.int d2), .val (.ref b52), .unset, .unset, .unset, .unset, .unset] [(.int (5 : Int32)), (.int p4), (.int (5 : Int32)), (.ref b52)])) rfl (by rw [hml]; rfl) (argsL := [(.int p4), (.int (5 : Int32))]) (rest := [(.int (5 : Int32)), (.ref b52)]) (lenOf pd0_0 rfl) rfl (by show 2 * 0 + _ ≤ _; exact Nat.le_of_eq rfl) (hb hby at_117) (fun _ _ => ⟨rfl, e62, (by decide : 1 + 0 ≤ _), (by decide : 7 + 0 ≤ _)⟩)
    dsimp only [Pt.U, Pt.locs, Pt.cells, Pt.slots] at X63 l63 y63 z63 st63 hQ63
    subst y63 z63
    have X63 : Stand p l e room_1 s m #[(.int p0), (.int p1), (.int p2), (.int p3), (.int p4)] below meth c T63 _ 1 7 := X63
    obtain ⟨rfl, N63q, e63⟩ := hQ63
    have N63 : Fr n0 L63 := by rw [l63]; exact Fr.app N62 N63q
    refine own_go (st63) ?_
    show own_Fin p.tables e below (T63.setTop (mkF m 120 #[.val (.int p0), .val (.int p1), .val (.int p2), .val (.int p3), .val (.int p4), .val (.int (1 : Int32)), .val (.int d0), .val (.int d1), .val (.int d2), .val (.ref b52), .unset, .unset, .unset, .unset, .unset] [(.int (own_cnt p4 (5 : Int32))), (.int (5 : Int32)), (.ref b52)])) _
    obtain ⟨cl64, Ar64, q64, S64, M64, Ha64, G64⟩ := id V62
    have hin64 : ¬ ((5 : Int32) < 0 ∨ cl64.slots.size ≤ ((5 : Int32)).toNatClampNeg) := inb_of S64 ⟨by decide, by decide⟩
    obtain ⟨T64, h64, X64, e64, W64, st64⟩ := stI X63 hx hZ e63 Ar64 (j := (5 : Int32)) hin64 (g := (mkF m 120 #[.val (.int p0), .val (.int p1), .val (.int p2), .val (.int p3), .val (.int p4), .val (.int (1 : Int32)), .val (.int d0), .val (.int d1), .val (.int d2), .val (.ref b52), .unset, .unset, .unset, .unset, .unset] [(.int (own_cnt p4 (5 : Int32))), (.int (5 : Int32)), (.ref b52)])) rfl rfl (hb hby at_120)
    have N64 := Fr.snoc X64 N63 g_b52
    have K64 : Keep h0 h64 [] := K62.wr W64 (Or.inr sz_b52)
    have V64 : Arv Z h64 b52 k52 .int (7 : Int32) [(.int (own_cnt p4 (0 : Int32))), (.int (own_cnt p4 (1 : Int32))), (.int (own_cnt p4 (2 : Int32))), (.int (own_cnt p4 (3 : Int32))), (.int (own_cnt p4 (4 : Int32))), (.int (own_cnt p4 (5 : Int32))), (.int (0 : Int32))] (.int (0 : Int32)) := Arv.set Ar64 q64 S64 M64 Ha64 G64 rfl W64 5 rfl (Nat.le_of_ble_eq_true rfl)
    refine own_go st64 ?_
    show own_Fin p.tables e below (T64.setTop (mkF m 121 #[.val (.int p0), .val (.int p1), .val (.int p2), .val (.int p3), .val (.int p4), .val (.int (1 : Int32)), .val (.int d0), .val (.int d1), .val (.int d2), .val (.ref b52), .unset, .unset, .unset, .unset, .unset] [])) _
    refine own_go (B := T64.setTop (mkF m 129 #[.val (.int p0), .val (.int p1), .val (.int p2), .val (.int p3), .val (.int p4), .val (.int (1 : Int32)), .val (.int d0), .val (.int d1), .val (.int d2), .val (.ref b52), .unset, .unset, .unset, .unset, .unset] [(.int (6 : Int32)), (.int p4), (.int (6 : Int32)), (.ref b52)])) (fun t k => ?_) ?_
    · show Steps p.tables e below (T64.setTop (mkF m 121 #[.val (.int p0), .val (.int p1), .val (.int p2), .val (.int p3), .val (.int p4), .val (.int (1 : Int32)), .val (.int d0), .val (.int d1), .val (.int d2), .val (.ref b52), .unset, .unset, .unset, .unset, .unset] [])) t
      refine XS.aload X64.here hx rfl (hb hby at_121) rfl rfl ?_
      refine XS.bipush X64.here hx rfl (hb hby at_123) ?_
      refine XS.iload X64.here hx rfl (hb hby at_125) rfl ?_
      refine XS.bipush X64.here hx rfl (hb hby at_127) ?_
      exact k
    obtain ⟨_, _, ⟨T65, L65, k65, n65⟩, -, X65, ⟨Lc65, hQ65, l65, y65, z65⟩, st65⟩ := Jvm.LawKit.callS X64 hx (y := (⟨"com/example/rollhaus/rollhaus/dice/FacesAmongPinLaw", "cnt", "(II)I"⟩ : MethodName)) hown (mvT hZ (hw _ (List.mem_of_getElem? (i := 1) rfl))) (mvT hZ (hw _ (List.mem_of_getElem? (i := 2) rfl))) (mvT hZ (hw _ (List.mem_of_getElem? (i := 3) rfl))) (mvT hZ (hw _ (List.mem_of_getElem? (i := 4) rfl))) (by decide) (backOf (W := 2) (rm1 l Z a0 hw [] p4 (6 : Int32)  h64 n0 (Nat.le_trans Z0 K64.1) ) hZ (hw _ (List.mem_of_getElem? (i := 4) rfl)) (hw _ (List.mem_of_getElem? (i := 3) rfl)) (by decide) (by decide)) (g := (mkF m 129 #[.val (.int p0), .val (.int p1), .val (.int p2), .val (.int p3), .val (.int p4), .val (.int (1 : Int32)), .val (.int d0), .val (.int d1), .val (.int d2), .val (.ref b52), .unset, .unset, .unset, .unset, .unset] [(.int (6 : Int32)), (.int p4), (.int (6 : Int32)), (.ref b52)])) rfl (by rw [hml]; rfl) (argsL := [(.int p4), (.int (6 : Int32))]) (rest := [(.int (6 : Int32)), (.ref b52)]) (lenOf pd0_0 rfl) rfl (by show 2 * 0 + _ ≤ _; exact Nat.le_of_eq rfl) (hb hby at_129) (fun _ _ => ⟨rfl, e64, (by decide : 1 + 0 ≤ _), (by decide : 7 + 0 ≤ _)⟩)
    dsimp only [Pt.U, Pt.locs, Pt.cells, Pt.slots] at X65 l65 y65 z65 st65 hQ65
    subst y65 z65
    have X65 : Stand p l e room_1 s m #[(.int p0), (.int p1), (.int p2), (.int p3), (.int p4)] below meth c T65 _ 1 7 := X65
    obtain ⟨rfl, N65q, e65⟩ := hQ65
    have N65 : Fr n0 L65 := by rw [l65]; exact Fr.app N64 N65q
    refine own_go (st65) ?_
    show own_Fin p.tables e below (T65.setTop (mkF m 132 #[.val (.int p0), .val (.int p1), .val (.int p2), .val (.int p3), .val (.int p4), .val (.int (1 : Int32)), .val (.int d0), .val (.int d1), .val (.int d2), .val (.ref b52), .unset, .unset, .unset, .unset, .unset] [(.int (own_cnt p4 (6 : Int32))), (.int (6 : Int32)), (.ref b52)])) _
    obtain ⟨cl66, Ar66, q66, S66, M66, Ha66, G66⟩ := id V64
    have hin66 : ¬ ((6 : Int32) < 0 ∨ cl66.slots.size ≤ ((6 : Int32)).toNatClampNeg) := inb_of S66 ⟨by decide, by decide⟩
    obtain ⟨T66, h66, X66, e66, W66, st66⟩ := stI X65 hx hZ e65 Ar66 (j := (6 : Int32)) hin66 (g := (mkF m 132 #[.val (.int p0), .val (.int p1), .val (.int p2), .val (.int p3), .val (.int p4), .val (.int (1 : Int32)), .val (.int d0), .val (.int d1), .val (.int d2), .val (.ref b52), .unset, .unset, .unset, .unset, .unset] [(.int (own_cnt p4 (6 : Int32))), (.int (6 : Int32)), (.ref b52)])) rfl rfl (hb hby at_132)
    have N66 := Fr.snoc X66 N65 g_b52
    have K66 : Keep h0 h66 [] := K64.wr W66 (Or.inr sz_b52)
    have V66 : Arv Z h66 b52 k52 .int (7 : Int32) [(.int (own_cnt p4 (0 : Int32))), (.int (own_cnt p4 (1 : Int32))), (.int (own_cnt p4 (2 : Int32))), (.int (own_cnt p4 (3 : Int32))), (.int (own_cnt p4 (4 : Int32))), (.int (own_cnt p4 (5 : Int32))), (.int (own_cnt p4 (6 : Int32)))] (.int (0 : Int32)) := Arv.set Ar66 q66 S66 M66 Ha66 G66 rfl W66 6 rfl (Nat.le_of_ble_eq_true rfl)
    refine own_go st66 ?_
    show own_Fin p.tables e below (T66.setTop (mkF m 133 #[.val (.int p0), .val (.int p1), .val (.int p2), .val (.int p3), .val (.int p4), .val (.int (1 : Int32)), .val (.int d0), .val (.int d1), .val (.int d2), .val (.ref b52), .unset, .unset, .unset, .unset, .unset] [])) _
    refine own_go (B := T66.setTop (mkF m 135 #[.val (.int p0), .val (.int p1), .val (.int p2), .val (.int p3), .val (.int p4), .val (.int (1 : Int32)), .val (.int d0), .val (.int d1), .val (.int d2), .val (.ref b52), .unset, .unset, .unset, .unset, .unset] [(.int (1 : Int32))])) (fun t k => ?_) ?_
    · show Steps p.tables e below (T66.setTop (mkF m 133 #[.val (.int p0), .val (.int p1), .val (.int p2), .val (.int p3), .val (.int p4), .val (.int (1 : Int32)), .val (.int d0), .val (.int d1), .val (.int d2), .val (.ref b52), .unset, .unset, .unset, .unset, .unset] [])) t
      refine XS.iload X66.here hx rfl (hb hby at_133) rfl ?_
      exact k
    obtain ⟨T67, h67, k67, X67, e67, E67, A67, EA67, st67⟩ := newPE X66 hx hZ (hw _ (List.mem_of_getElem? (i := 0) rfl)) e66 (g := (mkF m 135 #[.val (.int p0), .val (.int p1), .val (.int p2), .val (.int p3), .val (.int p4), .val (.int (1 : Int32)), .val (.int d0), .val (.int d1), .val (.int d2), .val (.ref b52), .unset, .unset, .unset, .unset, .unset] [(.int (1 : Int32))])) rfl (hb hby at_135) rfl (by decide) (cap := 1) (by decide) (by decide) (by decide) (by decide) (ad := "[I") (by decide)
    obtain ⟨b67, g67⟩ : ∃ z, z = h66.size := ⟨_, rfl⟩
    rw [← g67] at A67 EA67 st67
    have g_b67 : n0 ≤ b67 := by rw [g67]; exact (Nat.le_trans Z0 K66.1)
    have sz_b67 : h0.size ≤ b67 := by rw [g67]; exact K66.1
    have ne68 : b52 ≠ b67 := Nat.ne_of_lt (by rw [g67]; exact V66.lt)
    have K67 : Keep h0 h67 [] := K66.ext E67
    have X67 : Stand p l e room_1 s m #[(.int p0), (.int p1), (.int p2), (.int p3), (.int p4)] below meth c T67 _ 2 8 := X67
    have V_b67 : Arv Z h67 b67 k67 .int (1 : Int32) [(.int (0 : Int32))] (.int (0 : Int32)) := (Arv.new A67 (by decide)).pad (pad_rep [] (.int (0 : Int32)) 1)
    refine own_go st67 ?_
    show own_Fin p.tables e below (T67.setTop (mkF m 137 #[.val (.int p0), .val (.int p1), .val (.int p2), .val (.int p3), .val (.int p4), .val (.int (1 : Int32)), .val (.int d0), .val (.int d1), .val (.int d2), .val (.ref b52), .unset, .unset, .unset, .unset, .unset] [(.ref b67)])) _
    refine own_go (B := T67.setTop (mkF m 149 #[.val (.int p0), .val (.int p1), .val (.int p2), .val (.int p3), .val (.int p4), .val (.int (1 : Int32)), .val (.int d0), .val (.int d1), .val (.int d2), .val (.ref b52), .val (.ref b67), .unset, .unset, .unset, .unset] [(.int d0), (.int (0 : Int32)), (.ref b67)])) (fun t k => ?_) ?_
    · show Steps p.tables e below (T67.setTop (mkF m 137 #[.val (.int p0), .val (.int p1), .val (.int p2), .val (.int p3), .val (.int p4), .val (.int (1 : Int32)), .val (.int d0), .val (.int d1), .val (.int d2), .val (.ref b52), .unset, .unset, .unset, .unset, .unset] [(.ref b67)])) t
      refine XS.astore X67.here hx rfl (hb hby at_137) rfl rfl (l' := #[.val (.int p0), .val (.int p1), .val (.int p2), .val (.int p3), .val (.int p4), .val (.int (1 : Int32)), .val (.int d0), .val (.int d1), .val (.int d2), .val (.ref b52), .val (.ref b67), .unset, .unset, .unset, .unset]) rfl ?_
      refine XS.iload X67.here hx rfl (hb hby at_139) rfl ?_
      refine XS.ifNo X67.here hx rfl (hb hby at_141) rfl ((if0 _ _).trans (tlt (by decide : (0 : Int32) < (1 : Int32))).2.2.2) ?_
      refine XS.aload X67.here hx rfl (hb hby at_144) rfl rfl ?_
      show Steps p.tables e below (T67.setTop (mkF m 146 #[.val (.int p0), .val (.int p1), .val (.int p2), .val (.int p3), .val (.int p4), .val (.int (1 : Int32)), .val (.int d0), .val (.int d1), .val (.int d2), .val (.ref b52), .val (.ref b67), .unset, .unset, .unset, .unset] [(.ref b67)])) t
      refine XS.iconst X67.here hx rfl (hb hby at_146) ?_
      refine XS.iload X67.here hx rfl (hb hby at_147) rfl ?_
      exact k
    obtain ⟨cl69, Ar69, q69, S69, M69, Ha69, G69⟩ := id V_b67
    have hin69 : ¬ ((0 : Int32) < 0 ∨ cl69.slots.size ≤ ((0 : Int32)).toNatClampNeg) := inb_of S69 ⟨by decide, by decide⟩
    obtain ⟨T69, h69, X69, e69, W69, st69⟩ := stI X67 hx hZ e67 Ar69 (j := (0 : Int32)) hin69 (g := (mkF m 149 #[.val (.int p0), .val (.int p1), .val (.int p2), .val (.int p3), .val (.int p4), .val (.int (1 : Int32)), .val (.int d0), .val (.int d1), .val (.int d2), .val (.ref b52), .val (.ref b67), .unset, .unset, .unset, .unset] [(.int d0), (.int (0 : Int32)), (.ref b67)])) rfl rfl (hb hby at_149)
    have N69 := Fr.snoc X69 N66 g_b67
    have K69 : Keep h0 h69 [] := K67.wr W69 (Or.inr sz_b67)
    have V69 : Arv Z h69 b67 k67 .int (1 : Int32) [(.int d0)] (.int (0 : Int32)) := Arv.set Ar69 q69 S69 M69 Ha69 G69 rfl W69 0 rfl (Nat.le_of_ble_eq_true rfl)
    refine own_go st69 ?_
    show own_Fin p.tables e below (T69.setTop (mkF m 150 #[.val (.int p0), .val (.int p1), .val (.int p2), .val (.int p3), .val (.int p4), .val (.int (1 : Int32)), .val (.int d0), .val (.int d1), .val (.int d2), .val (.ref b52), .val (.ref b67), .unset, .unset, .unset, .unset] [])) _
    refine own_go (B := T69.setTop (mkF m 178 #[.val (.int p0), .val (.int p1), .val (.int p2), .val (.int p3), .val (.int p4), .val (.int (1 : Int32)), .val (.int d0), .val (.int d1), .val (.int d2), .val (.ref b52), .val (.ref b67), .unset, .unset, .unset, .unset] [(.ref b52), (.ref b67)])) (fun t k => ?_) ?_
    · show Steps p.tables e below (T69.setTop (mkF m 150 #[.val (.int p0), .val (.int p1), .val (.int p2), .val (.int p3), .val (.int p4), .val (.int (1 : Int32)), .val (.int d0), .val (.int d1), .val (.int d2), .val (.ref b52), .val (.ref b67), .unset, .unset, .unset, .unset] [])) t
      refine XS.iload X69.here hx rfl (hb hby at_150) rfl ?_
      refine XS.iconst X69.here hx rfl (hb hby at_152) ?_
      refine XS.icmpYes X69.here hx rfl (pc0 := 153) (pc' := 162) rfl (hb hby at_153) rfl (flt (by decide : ¬ ((1 : Int32) < (1 : Int32)))).2.2.2 (by decide) (by decide) ?_
      refine XS.iload X69.here hx rfl (hb hby at_162) rfl ?_
      show Steps p.tables e below (T69.setTop (mkF m 164 #[.val (.int p0), .val (.int p1), .val (.int p2), .val (.int p3), .val (.int p4), .val (.int (1 : Int32)), .val (.int d0), .val (.int d1), .val (.int d2), .val (.ref b52), .val (.ref b67), .unset, .unset, .unset, .unset] [(.int (1 : Int32))])) t
      refine XS.iconst X69.here hx rfl (hb hby at_164) ?_
      refine XS.icmpYes X69.here hx rfl (pc0 := 165) (pc' := 174) rfl (hb hby at_165) rfl (flt (by decide : ¬ ((2 : Int32) < (1 : Int32)))).2.2.2 (by decide) (by decide) ?_
      refine XS.aload X69.here hx rfl (hb hby at_174) rfl rfl ?_
      refine XS.aload X69.here hx rfl (hb hby at_176) rfl rfl ?_
      exact k
    have f71 := ((V66.ext E67).other W69 ne68)
    have f72 := (((((((((EA52.wr W54).wr W56).wr W58).wr W60).wr W62).wr W64).wr W66).ext E67).wr W69)
    obtain ⟨_, _, ⟨T70, L70, k70, n70⟩, -, X70, ⟨Lc70, hQ70, l70, y70, z70⟩, st70⟩ := Jvm.LawKit.callS X69 hx (y := (⟨"com/example/rollhaus/rollhaus/dice/Faces", "among", "([I[I)Z"⟩ : MethodName)) hown (mvT hZ (hw _ (List.mem_of_getElem? (i := 5) rfl))) (mvT hZ (hw _ (List.mem_of_getElem? (i := 6) rfl))) (mvT hZ (hw _ (List.mem_of_getElem? (i := 7) rfl))) (mvT hZ (hw _ (List.mem_of_getElem? (i := 8) rfl))) (by decide) (backOf (W := 0) (rm3 l Z a0 hw [] b67 b52 k67 k52 1 [d0] [(own_cnt p4 (0 : Int32)), (own_cnt p4 (1 : Int32)), (own_cnt p4 (2 : Int32)), (own_cnt p4 (3 : Int32)), (own_cnt p4 (4 : Int32)), (own_cnt p4 (5 : Int32)), (own_cnt p4 (6 : Int32))] h69 n0 (Nat.le_trans Z0 K69.1) V69 f71 f72 rfl (by decide) rfl) hZ (hw _ (List.mem_of_getElem? (i := 8) rfl)) (hw _ (List.mem_of_getElem? (i := 7) rfl)) (by decide) (by decide)) (g := (mkF m 178 #[.val (.int p0), .val (.int p1), .val (.int p2), .val (.int p3), .val (.int p4), .val (.int (1 : Int32)), .val (.int d0), .val (.int d1), .val (.int d2), .val (.ref b52), .val (.ref b67), .unset, .unset, .unset, .unset] [(.ref b52), (.ref b67)])) rfl (by rw [hml]; rfl) (argsL := [(.ref b67), (.ref b52)]) (rest := []) (lenOf pd0_1 rfl) rfl (by show 2 * 0 + _ ≤ _; exact Nat.le_of_eq rfl) (hb hby at_178) (fun _ _ => ⟨rfl, e69, (by decide : 2 + 1 ≤ _), (by decide : 8 + 7 ≤ _)⟩)
    dsimp only [Pt.U, Pt.locs, Pt.cells, Pt.slots] at X70 l70 y70 z70 st70 hQ70
    subst y70 z70
    have X70 : Stand p l e room_1 s m #[(.int p0), (.int p1), (.int p2), (.int p3), (.int p4)] below meth c T70 _ 3 15 := X70
    obtain ⟨rfl, N70q, Kq70⟩ := hQ70
    have N70 : Fr n0 L70 := by rw [l70]; exact Fr.app N69 N70q
    have K70 : Keep h0 T70.heap [] := K69.trans Kq70 all0
    refine own_go (st70) ?_
    show own_Fin p.tables e below (T70.setTop (mkF m 181 #[.val (.int p0), .val (.int p1), .val (.int p2), .val (.int p3), .val (.int p4), .val (.int (1 : Int32)), .val (.int d0), .val (.int d1), .val (.int d2), .val (.ref b52), .val (.ref b67), .unset, .unset, .unset, .unset] [(.int (own_am [d0] [(own_cnt p4 (0 : Int32)), (own_cnt p4 (1 : Int32)), (own_cnt p4 (2 : Int32)), (own_cnt p4 (3 : Int32)), (own_cnt p4 (4 : Int32)), (own_cnt p4 (5 : Int32)), (own_cnt p4 (6 : Int32))]))])) _
    refine own_go (B := T70.setTop (mkF m 194 #[.val (.int p0), .val (.int p1), .val (.int p2), .val (.int p3), .val (.int p4), .val (.int (1 : Int32)), .val (.int d0), .val (.int d1), .val (.int d2), .val (.ref b52), .val (.ref b67), .val (.int (own_am [d0] [(own_cnt p4 (0 : Int32)), (own_cnt p4 (1 : Int32)), (own_cnt p4 (2 : Int32)), (own_cnt p4 (3 : Int32)), (own_cnt p4 (4 : Int32)), (own_cnt p4 (5 : Int32)), (own_cnt p4 (6 : Int32))])), .unset, .unset, .unset] [(.int p4), (.int d2), (.int d1), (.int d0), (.int (1 : Int32)), (.int (0 : Int32))])) (fun t k => ?_) ?_
    · show Steps p.tables e below (T70.setTop (mkF m 181 #[.val (.int p0), .val (.int p1), .val (.int p2), .val (.int p3), .val (.int p4), .val (.int (1 : Int32)), .val (.int d0), .val (.int d1), .val (.int d2), .val (.ref b52), .val (.ref b67), .unset, .unset, .unset, .unset] [(.int (own_am [d0] [(own_cnt p4 (0 : Int32)), (own_cnt p4 (1 : Int32)), (own_cnt p4 (2 : Int32)), (own_cnt p4 (3 : Int32)), (own_cnt p4 (4 : Int32)), (own_cnt p4 (5 : Int32)), (own_cnt p4 (6 : Int32))]))])) t
      refine XS.istore X70.here hx rfl (hb hby at_181) rfl (l' := #[.val (.int p0), .val (.int p1), .val (.int p2), .val (.int p3), .val (.int p4), .val (.int (1 : Int32)), .val (.int d0), .val (.int d1), .val (.int d2), .val (.ref b52), .val (.ref b67), .val (.int (own_am [d0] [(own_cnt p4 (0 : Int32)), (own_cnt p4 (1 : Int32)), (own_cnt p4 (2 : Int32)), (own_cnt p4 (3 : Int32)), (own_cnt p4 (4 : Int32)), (own_cnt p4 (5 : Int32)), (own_cnt p4 (6 : Int32))])), .unset, .unset, .unset]) rfl ?_
      refine XS.iconst X70.here hx rfl (hb hby at_183) ?_
      refine XS.iload X70.here hx rfl (hb hby at_184) rfl ?_
      refine XS.iload X70.here hx rfl (hb hby at_186) rfl ?_
      show Steps p.tables e below (T70.setTop (mkF m 188 #[.val (.int p0), .val (.int p1), .val (.int p2), .val (.int p3), .val (.int p4), .val (.int (1 : Int32)), .val (.int d0), .val (.int d1), .val (.int d2), .val (.ref b52), .val (.ref b67), .val (.int (own_am [d0] [(own_cnt p4 (0 : Int32)), (own_cnt p4 (1 : Int32)), (own_cnt p4 (2 : Int32)), (own_cnt p4 (3 : Int32)), (own_cnt p4 (4 : Int32)), (own_cnt p4 (5 : Int32)), (own_cnt p4 (6 : Int32))])), .unset, .unset, .unset] [(.int d0), (.int (1 : Int32)), (.int (0 : Int32))])) t
      refine XS.iload X70.here hx rfl (hb hby at_188) rfl ?_
      refine XS.iload X70.here hx rfl (hb hby at_190) rfl ?_
      refine XS.iload X70.here hx rfl (hb hby at_192) rfl ?_
      exact k
    obtain ⟨_, _, ⟨T73, L73, k73, n73⟩, -, X73, ⟨Lc73, hQ73, l73, y73, z73⟩, st73⟩ := Jvm.LawKit.callS X70 hx (y := (⟨"com/example/rollhaus/rollhaus/dice/FacesAmongPinLaw", "fits", "(IIIIII)Z"⟩ : MethodName)) hown (mvT hZ (hw _ (List.mem_of_getElem? (i := 18) rfl))) (mvT hZ (hw _ (List.mem_of_getElem? (i := 19) rfl))) (mvT hZ (hw _ (List.mem_of_getElem? (i := 3) rfl))) (mvT hZ (hw _ (List.mem_of_getElem? (i := 20) rfl))) (by decide) (backOf (W := 0) (rm2 l Z a0 hw [] (0 : Int32) (1 : Int32) d0 d1 d2 p4  T70.heap n0 (Nat.le_trans Z0 K70.1) ) hZ (hw _ (List.mem_of_getElem? (i := 20) rfl)) (hw _ (List.mem_of_getElem? (i := 3) rfl)) (by decide) (by decide)) (g := (mkF m 194 #[.val (.int p0), .val (.int p1), .val (.int p2), .val (.int p3), .val (.int p4), .val (.int (1 : Int32)), .val (.int d0), .val (.int d1), .val (.int d2), .val (.ref b52), .val (.ref b67), .val (.int (own_am [d0] [(own_cnt p4 (0 : Int32)), (own_cnt p4 (1 : Int32)), (own_cnt p4 (2 : Int32)), (own_cnt p4 (3 : Int32)), (own_cnt p4 (4 : Int32)), (own_cnt p4 (5 : Int32)), (own_cnt p4 (6 : Int32))])), .unset, .unset, .unset] [(.int p4), (.int d2), (.int d1), (.int d0), (.int (1 : Int32)), (.int (0 : Int32))])) rfl (by rw [hml]; rfl) (argsL := [(.int (0 : Int32)), (.int (1 : Int32)), (.int d0), (.int d1), (.int d2), (.int p4)]) (rest := []) (lenOf pd0_2 rfl) rfl (by show 2 * 0 + _ ≤ _; exact Nat.le_of_eq rfl) (hb hby at_194) (fun _ _ => ⟨rfl, rfl, (by decide : 3 + 0 ≤ _), (by decide : 15 + 0 ≤ _)⟩)
    dsimp only [Pt.U, Pt.locs, Pt.cells, Pt.slots] at X73 l73 y73 z73 st73 hQ73
    subst y73 z73
    have X73 : Stand p l e room_1 s m #[(.int p0), (.int p1), (.int p2), (.int p3), (.int p4)] below meth c T73 _ 3 15 := X73
    obtain ⟨rfl, N73q, e73⟩ := hQ73
    have N73 : Fr n0 L73 := by rw [l73]; exact Fr.app N70 N73q
    refine own_go (st73) ?_
    show own_Fin p.tables e below (T73.setTop (mkF m 197 #[.val (.int p0), .val (.int p1), .val (.int p2), .val (.int p3), .val (.int p4), .val (.int (1 : Int32)), .val (.int d0), .val (.int d1), .val (.int d2), .val (.ref b52), .val (.ref b67), .val (.int (own_am [d0] [(own_cnt p4 (0 : Int32)), (own_cnt p4 (1 : Int32)), (own_cnt p4 (2 : Int32)), (own_cnt p4 (3 : Int32)), (own_cnt p4 (4 : Int32)), (own_cnt p4 (5 : Int32)), (own_cnt p4 (6 : Int32))])), .unset, .unset, .unset] [(.int (own_fits (0 : Int32) (1 : Int32) d0 d1 d2 p4))])) _
    have joinJ : ∀ (TJ : State) (locsJ : List Loc) (XJ : Stand p l e room_1 s m #[(.int p0), (.int p1), (.int p2), (.int p3), (.int p4)] below meth c TJ locsJ 3 15) (eJ : TJ.heap = T70.heap) (NJ : Fr n0 locsJ) (ex : Int32) (hex : (own_am [d0] [(own_cnt p4 (0 : Int32)), (own_cnt p4 (1 : Int32)), (own_cnt p4 (2 : Int32)), (own_cnt p4 (3 : Int32)), (own_cnt p4 (4 : Int32)), (own_cnt p4 (5 : Int32)), (own_cnt p4 (6 : Int32))]) = ex), own_Fin p.tables e below (TJ.setTop (mkF m 239 #[.val (.int p0), .val (.int p1), .val (.int p2), .val (.int p3), .val (.int p4), .val (.int (1 : Int32)), .val (.int d0), .val (.int d1), .val (.int d2), .val (.ref b52), .val (.ref b67), .val (.int (own_am [d0] [(own_cnt p4 (0 : Int32)), (own_cnt p4 (1 : Int32)), (own_cnt p4 (2 : Int32)), (own_cnt p4 (3 : Int32)), (own_cnt p4 (4 : Int32)), (own_cnt p4 (5 : Int32)), (own_cnt p4 (6 : Int32))])), .unset, .unset, .unset] [(.int ex)])) (fun s₂ o => s₂.status = .running ∧ Ended s₂ below o ∧ ∃ v L, o = .returned v ∧ Q0 Z p0 p1 p2 p3 p4 h0 n0 v s₂.heap L ∧ FrameEnd s o s₂ L room_1.cells room_1.slots) := by
      intro TJ locsJ XJ eJ NJ ex hex
      refine own_go (B := TJ.setTop (mkF m 244 #[.val (.int p0), .val (.int p1), .val (.int p2), .val (.int p3), .val (.int p4), .val (.int (1 : Int32)), .val (.int d0), .val (.int d1), .val (.int d2), .val (.ref b52), .val (.ref b67), .val (.int (own_am [d0] [(own_cnt p4 (0 : Int32)), (own_cnt p4 (1 : Int32)), (own_cnt p4 (2 : Int32)), (own_cnt p4 (3 : Int32)), (own_cnt p4 (4 : Int32)), (own_cnt p4 (5 : Int32)), (own_cnt p4 (6 : Int32))])), .val (.int ex), .unset, .unset] [(.int (0 : Int32)), (.ref b52)])) (fun t k => ?_) ?_
      · show Steps p.tables e below (TJ.setTop (mkF m 239 #[.val (.int p0), .val (.int p1), .val (.int p2), .val (.int p3), .val (.int p4), .val (.int (1 : Int32)), .val (.int d0), .val (.int d1), .val (.int d2), .val (.ref b52), .val (.ref b67), .val (.int (own_am [d0] [(own_cnt p4 (0 : Int32)), (own_cnt p4 (1 : Int32)), (own_cnt p4 (2 : Int32)), (own_cnt p4 (3 : Int32)), (own_cnt p4 (4 : Int32)), (own_cnt p4 (5 : Int32)), (own_cnt p4 (6 : Int32))])), .unset, .unset, .unset] [(.int ex)])) t
        refine XS.istore XJ.here hx rfl (hb hby at_239) rfl (l' := #[.val (.int p0), .val (.int p1), .val (.int p2), .val (.int p3), .val (.int p4), .val (.int (1 : Int32)), .val (.int d0), .val (.int d1), .val (.int d2), .val (.ref b52), .val (.ref b67), .val (.int (own_am [d0] [(own_cnt p4 (0 : Int32)), (own_cnt p4 (1 : Int32)), (own_cnt p4 (2 : Int32)), (own_cnt p4 (3 : Int32)), (own_cnt p4 (4 : Int32)), (own_cnt p4 (5 : Int32)), (own_cnt p4 (6 : Int32))])), .val (.int ex), .unset, .unset]) rfl ?_
        refine XS.aload XJ.here hx rfl (hb hby at_241) rfl rfl ?_
        refine XS.iconst XJ.here hx rfl (hb hby at_243) ?_
        exact k
      have f75 := (f71.keep Kq70 nin0)
      obtain ⟨cl74, Ar74, -, S74, M74, Ha74, G74⟩ := id f75
      have hin74 : ¬ ((0 : Int32) < 0 ∨ cl74.slots.size ≤ ((0 : Int32)).toNatClampNeg) := inb_of S74 ⟨by decide, by decide⟩
      have hat74 : cl74.slots[((0 : Int32)).toNatClampNeg]? = some (.int (own_cnt p4 (0 : Int32))) := Has.at Ha74 hin74 rfl
      refine own_go (B := TJ.setTop (mkF m 245 #[.val (.int p0), .val (.int p1), .val (.int p2), .val (.int p3), .val (.int p4), .val (.int (1 : Int32)), .val (.int d0), .val (.int d1), .val (.int d2), .val (.ref b52), .val (.ref b67), .val (.int (own_am [d0] [(own_cnt p4 (0 : Int32)), (own_cnt p4 (1 : Int32)), (own_cnt p4 (2 : Int32)), (own_cnt p4 (3 : Int32)), (own_cnt p4 (4 : Int32)), (own_cnt p4 (5 : Int32)), (own_cnt p4 (6 : Int32))])), .val (.int ex), .unset, .unset] [(.int (own_cnt p4 (0 : Int32)))])) (fun t k => ?_) ?_
      · exact XJ.iaload hx (j := (0 : Int32)) (v := (.int (own_cnt p4 (0 : Int32)))) (by rw [eJ]; exact Ar74.1) (State.isArrayOf_alike hZ.alike Ar74.2.1) Ar74.2.2 hin74 hat74 (g := (mkF m 244 #[.val (.int p0), .val (.int p1), .val (.int p2), .val (.int p3), .val (.int p4), .val (.int (1 : Int32)), .val (.int d0), .val (.int d1), .val (.int d2), .val (.ref b52), .val (.ref b67), .val (.int (own_am [d0] [(own_cnt p4 (0 : Int32)), (own_cnt p4 (1 : Int32)), (own_cnt p4 (2 : Int32)), (own_cnt p4 (3 : Int32)), (own_cnt p4 (4 : Int32)), (own_cnt p4 (5 : Int32)), (own_cnt p4 (6 : Int32))])), .val (.int ex), .unset, .unset] [(.int (0 : Int32)), (.ref b52)])) rfl rfl (hb hby at_244) _ k
      refine own_go (B := TJ.setTop (mkF m 248 #[.val (.int p0), .val (.int p1), .val (.int p2), .val (.int p3), .val (.int p4), .val (.int (1 : Int32)), .val (.int d0), .val (.int d1), .val (.int d2), .val (.ref b52), .val (.ref b67), .val (.int (own_am [d0] [(own_cnt p4 (0 : Int32)), (own_cnt p4 (1 : Int32)), (own_cnt p4 (2 : Int32)), (own_cnt p4 (3 : Int32)), (own_cnt p4 (4 : Int32)), (own_cnt p4 (5 : Int32)), (own_cnt p4 (6 : Int32))])), .val (.int ex), .unset, .unset] [(.int (0 : Int32)), (.int p4), (.int (own_cnt p4 (0 : Int32)))])) (fun t k => ?_) ?_
      · show Steps p.tables e below (TJ.setTop (mkF m 245 #[.val (.int p0), .val (.int p1), .val (.int p2), .val (.int p3), .val (.int p4), .val (.int (1 : Int32)), .val (.int d0), .val (.int d1), .val (.int d2), .val (.ref b52), .val (.ref b67), .val (.int (own_am [d0] [(own_cnt p4 (0 : Int32)), (own_cnt p4 (1 : Int32)), (own_cnt p4 (2 : Int32)), (own_cnt p4 (3 : Int32)), (own_cnt p4 (4 : Int32)), (own_cnt p4 (5 : Int32)), (own_cnt p4 (6 : Int32))])), .val (.int ex), .unset, .unset] [(.int (own_cnt p4 (0 : Int32)))])) t
        refine XS.iload XJ.here hx rfl (hb hby at_245) rfl ?_
        refine XS.iconst XJ.here hx rfl (hb hby at_247) ?_
        exact k
      obtain ⟨_, _, ⟨T76, L76, k76, n76⟩, -, X76, ⟨Lc76, hQ76, l76, y76, z76⟩, st76⟩ := Jvm.LawKit.callS XJ hx (y := (⟨"com/example/rollhaus/rollhaus/dice/FacesAmongPinLaw", "cnt", "(II)I"⟩ : MethodName)) hown (mvT hZ (hw _ (List.mem_of_getElem? (i := 1) rfl))) (mvT hZ (hw _ (List.mem_of_getElem? (i := 2) rfl))) (mvT hZ (hw _ (List.mem_of_getElem? (i := 3) rfl))) (mvT hZ (hw _ (List.mem_of_getElem? (i := 4) rfl))) (by decide) (backOf (W := 1) (rm1 l Z a0 hw [] p4 (0 : Int32)  T70.heap n0 (Nat.le_trans Z0 K70.1) ) hZ (hw _ (List.mem_of_getElem? (i := 4) rfl)) (hw _ (List.mem_of_getElem? (i := 3) rfl)) (by decide) (by decide)) (g := (mkF m 248 #[.val (.int p0), .val (.int p1), .val (.int p2), .val (.int p3), .val (.int p4), .val (.int (1 : Int32)), .val (.int d0), .val (.int d1), .val (.int d2), .val (.ref b52), .val (.ref b67), .val (.int (own_am [d0] [(own_cnt p4 (0 : Int32)), (own_cnt p4 (1 : Int32)), (own_cnt p4 (2 : Int32)), (own_cnt p4 (3 : Int32)), (own_cnt p4 (4 : Int32)), (own_cnt p4 (5 : Int32)), (own_cnt p4 (6 : Int32))])), .val (.int ex), .unset, .unset] [(.int (0 : Int32)), (.int p4), (.int (own_cnt p4 (0 : Int32)))])) rfl (by rw [hml]; rfl) (argsL := [(.int p4), (.int (0 : Int32))]) (rest := [(.int (own_cnt p4 (0 : Int32)))]) (lenOf pd0_0 rfl) rfl (by show 2 * 0 + _ ≤ _; exact Nat.le_of_eq rfl) (hb hby at_248) (fun _ _ => ⟨rfl, eJ, (by decide : 3 + 0 ≤ _), (by decide : 15 + 0 ≤ _)⟩)
      dsimp only [Pt.U, Pt.locs, Pt.cells, Pt.slots] at X76 l76 y76 z76 st76 hQ76
      subst y76 z76
      have X76 : Stand p l e room_1 s m #[(.int p0), (.int p1), (.int p2), (.int p3), (.int p4)] below meth c T76 _ 3 15 := X76
      obtain ⟨rfl, N76q, e76⟩ := hQ76
      have N76 : Fr n0 L76 := by rw [l76]; exact Fr.app NJ N76q
      refine own_go (st76) ?_
      show own_Fin p.tables e below (T76.setTop (mkF m 251 #[.val (.int p0), .val (.int p1), .val (.int p2), .val (.int p3), .val (.int p4), .val (.int (1 : Int32)), .val (.int d0), .val (.int d1), .val (.int d2), .val (.ref b52), .val (.ref b67), .val (.int (own_am [d0] [(own_cnt p4 (0 : Int32)), (own_cnt p4 (1 : Int32)), (own_cnt p4 (2 : Int32)), (own_cnt p4 (3 : Int32)), (own_cnt p4 (4 : Int32)), (own_cnt p4 (5 : Int32)), (own_cnt p4 (6 : Int32))])), .val (.int ex), .unset, .unset] [(.int (own_cnt p4 (0 : Int32))), (.int (own_cnt p4 (0 : Int32)))])) _
      refine own_go (B := T76.setTop (mkF m 257 #[.val (.int p0), .val (.int p1), .val (.int p2), .val (.int p3), .val (.int p4), .val (.int (1 : Int32)), .val (.int d0), .val (.int d1), .val (.int d2), .val (.ref b52), .val (.ref b67), .val (.int (own_am [d0] [(own_cnt p4 (0 : Int32)), (own_cnt p4 (1 : Int32)), (own_cnt p4 (2 : Int32)), (own_cnt p4 (3 : Int32)), (own_cnt p4 (4 : Int32)), (own_cnt p4 (5 : Int32)), (own_cnt p4 (6 : Int32))])), .val (.int ex), .unset, .unset] [(.int (1 : Int32)), (.ref b52)])) (fun t k => ?_) ?_
      · show Steps p.tables e below (T76.setTop (mkF m 251 #[.val (.int p0), .val (.int p1), .val (.int p2), .val (.int p3), .val (.int p4), .val (.int (1 : Int32)), .val (.int d0), .val (.int d1), .val (.int d2), .val (.ref b52), .val (.ref b67), .val (.int (own_am [d0] [(own_cnt p4 (0 : Int32)), (own_cnt p4 (1 : Int32)), (own_cnt p4 (2 : Int32)), (own_cnt p4 (3 : Int32)), (own_cnt p4 (4 : Int32)), (own_cnt p4 (5 : Int32)), (own_cnt p4 (6 : Int32))])), .val (.int ex), .unset, .unset] [(.int (own_cnt p4 (0 : Int32))), (.int (own_cnt p4 (0 : Int32)))])) t
        refine XS.icmpNo X76.here hx rfl (hb hby at_251) rfl (teq (rfl : (own_cnt p4 (0 : Int32)) = (own_cnt p4 (0 : Int32)))).2 ?_
        refine XS.aload X76.here hx rfl (hb hby at_254) rfl rfl ?_
        refine XS.iconst X76.here hx rfl (hb hby at_256) ?_
        exact k
      obtain ⟨cl77, Ar77, -, S77, M77, Ha77, G77⟩ := id f75
      have hin77 : ¬ ((1 : Int32) < 0 ∨ cl77.slots.size ≤ ((1 : Int32)).toNatClampNeg) := inb_of S77 ⟨by decide, by decide⟩
      have hat77 : cl77.slots[((1 : Int32)).toNatClampNeg]? = some (.int (own_cnt p4 (1 : Int32))) := Has.at Ha77 hin77 rfl
      refine own_go (B := T76.setTop (mkF m 258 #[.val (.int p0), .val (.int p1), .val (.int p2), .val (.int p3), .val (.int p4), .val (.int (1 : Int32)), .val (.int d0), .val (.int d1), .val (.int d2), .val (.ref b52), .val (.ref b67), .val (.int (own_am [d0] [(own_cnt p4 (0 : Int32)), (own_cnt p4 (1 : Int32)), (own_cnt p4 (2 : Int32)), (own_cnt p4 (3 : Int32)), (own_cnt p4 (4 : Int32)), (own_cnt p4 (5 : Int32)), (own_cnt p4 (6 : Int32))])), .val (.int ex), .unset, .unset] [(.int (own_cnt p4 (1 : Int32)))])) (fun t k => ?_) ?_
      · exact X76.iaload hx (j := (1 : Int32)) (v := (.int (own_cnt p4 (1 : Int32)))) (by rw [e76]; exact Ar77.1) (State.isArrayOf_alike hZ.alike Ar77.2.1) Ar77.2.2 hin77 hat77 (g := (mkF m 257 #[.val (.int p0), .val (.int p1), .val (.int p2), .val (.int p3), .val (.int p4), .val (.int (1 : Int32)), .val (.int d0), .val (.int d1), .val (.int d2), .val (.ref b52), .val (.ref b67), .val (.int (own_am [d0] [(own_cnt p4 (0 : Int32)), (own_cnt p4 (1 : Int32)), (own_cnt p4 (2 : Int32)), (own_cnt p4 (3 : Int32)), (own_cnt p4 (4 : Int32)), (own_cnt p4 (5 : Int32)), (own_cnt p4 (6 : Int32))])), .val (.int ex), .unset, .unset] [(.int (1 : Int32)), (.ref b52)])) rfl rfl (hb hby at_257) _ k
      refine own_go (B := T76.setTop (mkF m 261 #[.val (.int p0), .val (.int p1), .val (.int p2), .val (.int p3), .val (.int p4), .val (.int (1 : Int32)), .val (.int d0), .val (.int d1), .val (.int d2), .val (.ref b52), .val (.ref b67), .val (.int (own_am [d0] [(own_cnt p4 (0 : Int32)), (own_cnt p4 (1 : Int32)), (own_cnt p4 (2 : Int32)), (own_cnt p4 (3 : Int32)), (own_cnt p4 (4 : Int32)), (own_cnt p4 (5 : Int32)), (own_cnt p4 (6 : Int32))])), .val (.int ex), .unset, .unset] [(.int (1 : Int32)), (.int p4), (.int (own_cnt p4 (1 : Int32)))])) (fun t k => ?_) ?_
      · show Steps p.tables e below (T76.setTop (mkF m 258 #[.val (.int p0), .val (.int p1), .val (.int p2), .val (.int p3), .val (.int p4), .val (.int (1 : Int32)), .val (.int d0), .val (.int d1), .val (.int d2), .val (.ref b52), .val (.ref b67), .val (.int (own_am [d0] [(own_cnt p4 (0 : Int32)), (own_cnt p4 (1 : Int32)), (own_cnt p4 (2 : Int32)), (own_cnt p4 (3 : Int32)), (own_cnt p4 (4 : Int32)), (own_cnt p4 (5 : Int32)), (own_cnt p4 (6 : Int32))])), .val (.int ex), .unset, .unset] [(.int (own_cnt p4 (1 : Int32)))])) t
        refine XS.iload X76.here hx rfl (hb hby at_258) rfl ?_
        refine XS.iconst X76.here hx rfl (hb hby at_260) ?_
        exact k
      obtain ⟨_, _, ⟨T78, L78, k78, n78⟩, -, X78, ⟨Lc78, hQ78, l78, y78, z78⟩, st78⟩ := Jvm.LawKit.callS X76 hx (y := (⟨"com/example/rollhaus/rollhaus/dice/FacesAmongPinLaw", "cnt", "(II)I"⟩ : MethodName)) hown (mvT hZ (hw _ (List.mem_of_getElem? (i := 1) rfl))) (mvT hZ (hw _ (List.mem_of_getElem? (i := 2) rfl))) (mvT hZ (hw _ (List.mem_of_getElem? (i := 3) rfl))) (mvT hZ (hw _ (List.mem_of_getElem? (i := 4) rfl))) (by decide) (backOf (W := 1) (rm1 l Z a0 hw [] p4 (1 : Int32)  T70.heap n0 (Nat.le_trans Z0 K70.1) ) hZ (hw _ (List.mem_of_getElem? (i := 4) rfl)) (hw _ (List.mem_of_getElem? (i := 3) rfl)) (by decide) (by decide)) (g := (mkF m 261 #[.val (.int p0), .val (.int p1), .val (.int p2), .val (.int p3), .val (.int p4), .val (.int (1 : Int32)), .val (.int d0), .val (.int d1), .val (.int d2), .val (.ref b52), .val (.ref b67), .val (.int (own_am [d0] [(own_cnt p4 (0 : Int32)), (own_cnt p4 (1 : Int32)), (own_cnt p4 (2 : Int32)), (own_cnt p4 (3 : Int32)), (own_cnt p4 (4 : Int32)), (own_cnt p4 (5 : Int32)), (own_cnt p4 (6 : Int32))])), .val (.int ex), .unset, .unset] [(.int (1 : Int32)), (.int p4), (.int (own_cnt p4 (1 : Int32)))])) rfl (by rw [hml]; rfl) (argsL := [(.int p4), (.int (1 : Int32))]) (rest := [(.int (own_cnt p4 (1 : Int32)))]) (lenOf pd0_0 rfl) rfl (by show 2 * 0 + _ ≤ _; exact Nat.le_of_eq rfl) (hb hby at_261) (fun _ _ => ⟨rfl, e76, (by decide : 3 + 0 ≤ _), (by decide : 15 + 0 ≤ _)⟩)
      dsimp only [Pt.U, Pt.locs, Pt.cells, Pt.slots] at X78 l78 y78 z78 st78 hQ78
      subst y78 z78
      have X78 : Stand p l e room_1 s m #[(.int p0), (.int p1), (.int p2), (.int p3), (.int p4)] below meth c T78 _ 3 15 := X78
      obtain ⟨rfl, N78q, e78⟩ := hQ78
      have N78 : Fr n0 L78 := by rw [l78]; exact Fr.app N76 N78q
      refine own_go (st78) ?_
      show own_Fin p.tables e below (T78.setTop (mkF m 264 #[.val (.int p0), .val (.int p1), .val (.int p2), .val (.int p3), .val (.int p4), .val (.int (1 : Int32)), .val (.int d0), .val (.int d1), .val (.int d2), .val (.ref b52), .val (.ref b67), .val (.int (own_am [d0] [(own_cnt p4 (0 : Int32)), (own_cnt p4 (1 : Int32)), (own_cnt p4 (2 : Int32)), (own_cnt p4 (3 : Int32)), (own_cnt p4 (4 : Int32)), (own_cnt p4 (5 : Int32)), (own_cnt p4 (6 : Int32))])), .val (.int ex), .unset, .unset] [(.int (own_cnt p4 (1 : Int32))), (.int (own_cnt p4 (1 : Int32)))])) _
      refine own_go (B := T78.setTop (mkF m 270 #[.val (.int p0), .val (.int p1), .val (.int p2), .val (.int p3), .val (.int p4), .val (.int (1 : Int32)), .val (.int d0), .val (.int d1), .val (.int d2), .val (.ref b52), .val (.ref b67), .val (.int (own_am [d0] [(own_cnt p4 (0 : Int32)), (own_cnt p4 (1 : Int32)), (own_cnt p4 (2 : Int32)), (own_cnt p4 (3 : Int32)), (own_cnt p4 (4 : Int32)), (own_cnt p4 (5 : Int32)), (own_cnt p4 (6 : Int32))])), .val (.int ex), .unset, .unset] [(.int (2 : Int32)), (.ref b52)])) (fun t k => ?_) ?_
      · show Steps p.tables e below (T78.setTop (mkF m 264 #[.val (.int p0), .val (.int p1), .val (.int p2), .val (.int p3), .val (.int p4), .val (.int (1 : Int32)), .val (.int d0), .val (.int d1), .val (.int d2), .val (.ref b52), .val (.ref b67), .val (.int (own_am [d0] [(own_cnt p4 (0 : Int32)), (own_cnt p4 (1 : Int32)), (own_cnt p4 (2 : Int32)), (own_cnt p4 (3 : Int32)), (own_cnt p4 (4 : Int32)), (own_cnt p4 (5 : Int32)), (own_cnt p4 (6 : Int32))])), .val (.int ex), .unset, .unset] [(.int (own_cnt p4 (1 : Int32))), (.int (own_cnt p4 (1 : Int32)))])) t
        refine XS.icmpNo X78.here hx rfl (hb hby at_264) rfl (teq (rfl : (own_cnt p4 (1 : Int32)) = (own_cnt p4 (1 : Int32)))).2 ?_
        refine XS.aload X78.here hx rfl (hb hby at_267) rfl rfl ?_
        refine XS.iconst X78.here hx rfl (hb hby at_269) ?_
        exact k
      obtain ⟨cl79, Ar79, -, S79, M79, Ha79, G79⟩ := id f75
      have hin79 : ¬ ((2 : Int32) < 0 ∨ cl79.slots.size ≤ ((2 : Int32)).toNatClampNeg) := inb_of S79 ⟨by decide, by decide⟩
      have hat79 : cl79.slots[((2 : Int32)).toNatClampNeg]? = some (.int (own_cnt p4 (2 : Int32))) := Has.at Ha79 hin79 rfl
      refine own_go (B := T78.setTop (mkF m 271 #[.val (.int p0), .val (.int p1), .val (.int p2), .val (.int p3), .val (.int p4), .val (.int (1 : Int32)), .val (.int d0), .val (.int d1), .val (.int d2), .val (.ref b52), .val (.ref b67), .val (.int (own_am [d0] [(own_cnt p4 (0 : Int32)), (own_cnt p4 (1 : Int32)), (own_cnt p4 (2 : Int32)), (own_cnt p4 (3 : Int32)), (own_cnt p4 (4 : Int32)), (own_cnt p4 (5 : Int32)), (own_cnt p4 (6 : Int32))])), .val (.int ex), .unset, .unset] [(.int (own_cnt p4 (2 : Int32)))])) (fun t k => ?_) ?_
      · exact X78.iaload hx (j := (2 : Int32)) (v := (.int (own_cnt p4 (2 : Int32)))) (by rw [e78]; exact Ar79.1) (State.isArrayOf_alike hZ.alike Ar79.2.1) Ar79.2.2 hin79 hat79 (g := (mkF m 270 #[.val (.int p0), .val (.int p1), .val (.int p2), .val (.int p3), .val (.int p4), .val (.int (1 : Int32)), .val (.int d0), .val (.int d1), .val (.int d2), .val (.ref b52), .val (.ref b67), .val (.int (own_am [d0] [(own_cnt p4 (0 : Int32)), (own_cnt p4 (1 : Int32)), (own_cnt p4 (2 : Int32)), (own_cnt p4 (3 : Int32)), (own_cnt p4 (4 : Int32)), (own_cnt p4 (5 : Int32)), (own_cnt p4 (6 : Int32))])), .val (.int ex), .unset, .unset] [(.int (2 : Int32)), (.ref b52)])) rfl rfl (hb hby at_270) _ k
      refine own_go (B := T78.setTop (mkF m 274 #[.val (.int p0), .val (.int p1), .val (.int p2), .val (.int p3), .val (.int p4), .val (.int (1 : Int32)), .val (.int d0), .val (.int d1), .val (.int d2), .val (.ref b52), .val (.ref b67), .val (.int (own_am [d0] [(own_cnt p4 (0 : Int32)), (own_cnt p4 (1 : Int32)), (own_cnt p4 (2 : Int32)), (own_cnt p4 (3 : Int32)), (own_cnt p4 (4 : Int32)), (own_cnt p4 (5 : Int32)), (own_cnt p4 (6 : Int32))])), .val (.int ex), .unset, .unset] [(.int (2 : Int32)), (.int p4), (.int (own_cnt p4 (2 : Int32)))])) (fun t k => ?_) ?_
      · show Steps p.tables e below (T78.setTop (mkF m 271 #[.val (.int p0), .val (.int p1), .val (.int p2), .val (.int p3), .val (.int p4), .val (.int (1 : Int32)), .val (.int d0), .val (.int d1), .val (.int d2), .val (.ref b52), .val (.ref b67), .val (.int (own_am [d0] [(own_cnt p4 (0 : Int32)), (own_cnt p4 (1 : Int32)), (own_cnt p4 (2 : Int32)), (own_cnt p4 (3 : Int32)), (own_cnt p4 (4 : Int32)), (own_cnt p4 (5 : Int32)), (own_cnt p4 (6 : Int32))])), .val (.int ex), .unset, .unset] [(.int (own_cnt p4 (2 : Int32)))])) t
        refine XS.iload X78.here hx rfl (hb hby at_271) rfl ?_
        refine XS.iconst X78.here hx rfl (hb hby at_273) ?_
        exact k
      obtain ⟨_, _, ⟨T80, L80, k80, n80⟩, -, X80, ⟨Lc80, hQ80, l80, y80, z80⟩, st80⟩ := Jvm.LawKit.callS X78 hx (y := (⟨"com/example/rollhaus/rollhaus/dice/FacesAmongPinLaw", "cnt", "(II)I"⟩ : MethodName)) hown (mvT hZ (hw _ (List.mem_of_getElem? (i := 1) rfl))) (mvT hZ (hw _ (List.mem_of_getElem? (i := 2) rfl))) (mvT hZ (hw _ (List.mem_of_getElem? (i := 3) rfl))) (mvT hZ (hw _ (List.mem_of_getElem? (i := 4) rfl))) (by decide) (backOf (W := 1) (rm1 l Z a0 hw [] p4 (2 : Int32)  T70.heap n0 (Nat.le_trans Z0 K70.1) ) hZ (hw _ (List.mem_of_getElem? (i := 4) rfl)) (hw _ (List.mem_of_getElem? (i := 3) rfl)) (by decide) (by decide)) (g := (mkF m 274 #[.val (.int p0), .val (.int p1), .val (.int p2), .val (.int p3), .val (.int p4), .val (.int (1 : Int32)), .val (.int d0), .val (.int d1), .val (.int d2), .val (.ref b52), .val (.ref b67), .val (.int (own_am [d0] [(own_cnt p4 (0 : Int32)), (own_cnt p4 (1 : Int32)), (own_cnt p4 (2 : Int32)), (own_cnt p4 (3 : Int32)), (own_cnt p4 (4 : Int32)), (own_cnt p4 (5 : Int32)), (own_cnt p4 (6 : Int32))])), .val (.int ex), .unset, .unset] [(.int (2 : Int32)), (.int p4), (.int (own_cnt p4 (2 : Int32)))])) rfl (by rw [hml]; rfl) (argsL := [(.int p4), (.int (2 : Int32))]) (rest := [(.int (own_cnt p4 (2 : Int32)))]) (lenOf pd0_0 rfl) rfl (by show 2 * 0 + _ ≤ _; exact Nat.le_of_eq rfl) (hb hby at_274) (fun _ _ => ⟨rfl, e78, (by decide : 3 + 0 ≤ _), (by decide : 15 + 0 ≤ _)⟩)
      dsimp only [Pt.U, Pt.locs, Pt.cells, Pt.slots] at X80 l80 y80 z80 st80 hQ80
      subst y80 z80
      have X80 : Stand p l e room_1 s m #[(.int p0), (.int p1), (.int p2), (.int p3), (.int p4)] below meth c T80 _ 3 15 := X80
      obtain ⟨rfl, N80q, e80⟩ := hQ80
      have N80 : Fr n0 L80 := by rw [l80]; exact Fr.app N78 N80q
      refine own_go (st80) ?_
      show own_Fin p.tables e below (T80.setTop (mkF m 277 #[.val (.int p0), .val (.int p1), .val (.int p2), .val (.int p3), .val (.int p4), .val (.int (1 : Int32)), .val (.int d0), .val (.int d1), .val (.int d2), .val (.ref b52), .val (.ref b67), .val (.int (own_am [d0] [(own_cnt p4 (0 : Int32)), (own_cnt p4 (1 : Int32)), (own_cnt p4 (2 : Int32)), (own_cnt p4 (3 : Int32)), (own_cnt p4 (4 : Int32)), (own_cnt p4 (5 : Int32)), (own_cnt p4 (6 : Int32))])), .val (.int ex), .unset, .unset] [(.int (own_cnt p4 (2 : Int32))), (.int (own_cnt p4 (2 : Int32)))])) _
      refine own_go (B := T80.setTop (mkF m 283 #[.val (.int p0), .val (.int p1), .val (.int p2), .val (.int p3), .val (.int p4), .val (.int (1 : Int32)), .val (.int d0), .val (.int d1), .val (.int d2), .val (.ref b52), .val (.ref b67), .val (.int (own_am [d0] [(own_cnt p4 (0 : Int32)), (own_cnt p4 (1 : Int32)), (own_cnt p4 (2 : Int32)), (own_cnt p4 (3 : Int32)), (own_cnt p4 (4 : Int32)), (own_cnt p4 (5 : Int32)), (own_cnt p4 (6 : Int32))])), .val (.int ex), .unset, .unset] [(.int (3 : Int32)), (.ref b52)])) (fun t k => ?_) ?_
      · show Steps p.tables e below (T80.setTop (mkF m 277 #[.val (.int p0), .val (.int p1), .val (.int p2), .val (.int p3), .val (.int p4), .val (.int (1 : Int32)), .val (.int d0), .val (.int d1), .val (.int d2), .val (.ref b52), .val (.ref b67), .val (.int (own_am [d0] [(own_cnt p4 (0 : Int32)), (own_cnt p4 (1 : Int32)), (own_cnt p4 (2 : Int32)), (own_cnt p4 (3 : Int32)), (own_cnt p4 (4 : Int32)), (own_cnt p4 (5 : Int32)), (own_cnt p4 (6 : Int32))])), .val (.int ex), .unset, .unset] [(.int (own_cnt p4 (2 : Int32))), (.int (own_cnt p4 (2 : Int32)))])) t
        refine XS.icmpNo X80.here hx rfl (hb hby at_277) rfl (teq (rfl : (own_cnt p4 (2 : Int32)) = (own_cnt p4 (2 : Int32)))).2 ?_
        refine XS.aload X80.here hx rfl (hb hby at_280) rfl rfl ?_
        refine XS.iconst X80.here hx rfl (hb hby at_282) ?_
        exact k
      obtain ⟨cl81, Ar81, -, S81, M81, Ha81, G81⟩ := id f75
      have hin81 : ¬ ((3 : Int32) < 0 ∨ cl81.slots.size ≤ ((3 : Int32)).toNatClampNeg) := inb_of S81 ⟨by decide, by decide⟩
      have hat81 : cl81.slots[((3 : Int32)).toNatClampNeg]? = some (.int (own_cnt p4 (3 : Int32))) := Has.at Ha81 hin81 rfl
      refine own_go (B := T80.setTop (mkF m 284 #[.val (.int p0), .val (.int p1), .val (.int p2), .val (.int p3), .val (.int p4), .val (.int (1 : Int32)), .val (.int d0), .val (.int d1), .val (.int d2), .val (.ref b52), .val (.ref b67), .val (.int (own_am [d0] [(own_cnt p4 (0 : Int32)), (own_cnt p4 (1 : Int32)), (own_cnt p4 (2 : Int32)), (own_cnt p4 (3 : Int32)), (own_cnt p4 (4 : Int32)), (own_cnt p4 (5 : Int32)), (own_cnt p4 (6 : Int32))])), .val (.int ex), .unset, .unset] [(.int (own_cnt p4 (3 : Int32)))])) (fun t k => ?_) ?_
      · exact X80.iaload hx (j := (3 : Int32)) (v := (.int (own_cnt p4 (3 : Int32)))) (by rw [e80]; exact Ar81.1) (State.isArrayOf_alike hZ.alike Ar81.2.1) Ar81.2.2 hin81 hat81 (g := (mkF m 283 #[.val (.int p0), .val (.int p1), .val (.int p2), .val (.int p3), .val (.int p4), .val (.int (1 : Int32)), .val (.int d0), .val (.int d1), .val (.int d2), .val (.ref b52), .val (.ref b67), .val (.int (own_am [d0] [(own_cnt p4 (0 : Int32)), (own_cnt p4 (1 : Int32)), (own_cnt p4 (2 : Int32)), (own_cnt p4 (3 : Int32)), (own_cnt p4 (4 : Int32)), (own_cnt p4 (5 : Int32)), (own_cnt p4 (6 : Int32))])), .val (.int ex), .unset, .unset] [(.int (3 : Int32)), (.ref b52)])) rfl rfl (hb hby at_283) _ k
      refine own_go (B := T80.setTop (mkF m 287 #[.val (.int p0), .val (.int p1), .val (.int p2), .val (.int p3), .val (.int p4), .val (.int (1 : Int32)), .val (.int d0), .val (.int d1), .val (.int d2), .val (.ref b52), .val (.ref b67), .val (.int (own_am [d0] [(own_cnt p4 (0 : Int32)), (own_cnt p4 (1 : Int32)), (own_cnt p4 (2 : Int32)), (own_cnt p4 (3 : Int32)), (own_cnt p4 (4 : Int32)), (own_cnt p4 (5 : Int32)), (own_cnt p4 (6 : Int32))])), .val (.int ex), .unset, .unset] [(.int (3 : Int32)), (.int p4), (.int (own_cnt p4 (3 : Int32)))])) (fun t k => ?_) ?_
      · show Steps p.tables e below (T80.setTop (mkF m 284 #[.val (.int p0), .val (.int p1), .val (.int p2), .val (.int p3), .val (.int p4), .val (.int (1 : Int32)), .val (.int d0), .val (.int d1), .val (.int d2), .val (.ref b52), .val (.ref b67), .val (.int (own_am [d0] [(own_cnt p4 (0 : Int32)), (own_cnt p4 (1 : Int32)), (own_cnt p4 (2 : Int32)), (own_cnt p4 (3 : Int32)), (own_cnt p4 (4 : Int32)), (own_cnt p4 (5 : Int32)), (own_cnt p4 (6 : Int32))])), .val (.int ex), .unset, .unset] [(.int (own_cnt p4 (3 : Int32)))])) t
        refine XS.iload X80.here hx rfl (hb hby at_284) rfl ?_
        refine XS.iconst X80.here hx rfl (hb hby at_286) ?_
        exact k
      obtain ⟨_, _, ⟨T82, L82, k82, n82⟩, -, X82, ⟨Lc82, hQ82, l82, y82, z82⟩, st82⟩ := Jvm.LawKit.callS X80 hx (y := (⟨"com/example/rollhaus/rollhaus/dice/FacesAmongPinLaw", "cnt", "(II)I"⟩ : MethodName)) hown (mvT hZ (hw _ (List.mem_of_getElem? (i := 1) rfl))) (mvT hZ (hw _ (List.mem_of_getElem? (i := 2) rfl))) (mvT hZ (hw _ (List.mem_of_getElem? (i := 3) rfl))) (mvT hZ (hw _ (List.mem_of_getElem? (i := 4) rfl))) (by decide) (backOf (W := 1) (rm1 l Z a0 hw [] p4 (3 : Int32)  T70.heap n0 (Nat.le_trans Z0 K70.1) ) hZ (hw _ (List.mem_of_getElem? (i := 4) rfl)) (hw _ (List.mem_of_getElem? (i := 3) rfl)) (by decide) (by decide)) (g := (mkF m 287 #[.val (.int p0), .val (.int p1), .val (.int p2), .val (.int p3), .val (.int p4), .val (.int (1 : Int32)), .val (.int d0), .val (.int d1), .val (.int d2), .val (.ref b52), .val (.ref b67), .val (.int (own_am [d0] [(own_cnt p4 (0 : Int32)), (own_cnt p4 (1 : Int32)), (own_cnt p4 (2 : Int32)), (own_cnt p4 (3 : Int32)), (own_cnt p4 (4 : Int32)), (own_cnt p4 (5 : Int32)), (own_cnt p4 (6 : Int32))])), .val (.int ex), .unset, .unset] [(.int (3 : Int32)), (.int p4), (.int (own_cnt p4 (3 : Int32)))])) rfl (by rw [hml]; rfl) (argsL := [(.int p4), (.int (3 : Int32))]) (rest := [(.int (own_cnt p4 (3 : Int32)))]) (lenOf pd0_0 rfl) rfl (by show 2 * 0 + _ ≤ _; exact Nat.le_of_eq rfl) (hb hby at_287) (fun _ _ => ⟨rfl, e80, (by decide : 3 + 0 ≤ _), (by decide : 15 + 0 ≤ _)⟩)
      dsimp only [Pt.U, Pt.locs, Pt.cells, Pt.slots] at X82 l82 y82 z82 st82 hQ82
      subst y82 z82
      have X82 : Stand p l e room_1 s m #[(.int p0), (.int p1), (.int p2), (.int p3), (.int p4)] below meth c T82 _ 3 15 := X82
      obtain ⟨rfl, N82q, e82⟩ := hQ82
      have N82 : Fr n0 L82 := by rw [l82]; exact Fr.app N80 N82q
      refine own_go (st82) ?_
      show own_Fin p.tables e below (T82.setTop (mkF m 290 #[.val (.int p0), .val (.int p1), .val (.int p2), .val (.int p3), .val (.int p4), .val (.int (1 : Int32)), .val (.int d0), .val (.int d1), .val (.int d2), .val (.ref b52), .val (.ref b67), .val (.int (own_am [d0] [(own_cnt p4 (0 : Int32)), (own_cnt p4 (1 : Int32)), (own_cnt p4 (2 : Int32)), (own_cnt p4 (3 : Int32)), (own_cnt p4 (4 : Int32)), (own_cnt p4 (5 : Int32)), (own_cnt p4 (6 : Int32))])), .val (.int ex), .unset, .unset] [(.int (own_cnt p4 (3 : Int32))), (.int (own_cnt p4 (3 : Int32)))])) _
      refine own_go (B := T82.setTop (mkF m 296 #[.val (.int p0), .val (.int p1), .val (.int p2), .val (.int p3), .val (.int p4), .val (.int (1 : Int32)), .val (.int d0), .val (.int d1), .val (.int d2), .val (.ref b52), .val (.ref b67), .val (.int (own_am [d0] [(own_cnt p4 (0 : Int32)), (own_cnt p4 (1 : Int32)), (own_cnt p4 (2 : Int32)), (own_cnt p4 (3 : Int32)), (own_cnt p4 (4 : Int32)), (own_cnt p4 (5 : Int32)), (own_cnt p4 (6 : Int32))])), .val (.int ex), .unset, .unset] [(.int (4 : Int32)), (.ref b52)])) (fun t k => ?_) ?_
      · show Steps p.tables e below (T82.setTop (mkF m 290 #[.val (.int p0), .val (.int p1), .val (.int p2), .val (.int p3), .val (.int p4), .val (.int (1 : Int32)), .val (.int d0), .val (.int d1), .val (.int d2), .val (.ref b52), .val (.ref b67), .val (.int (own_am [d0] [(own_cnt p4 (0 : Int32)), (own_cnt p4 (1 : Int32)), (own_cnt p4 (2 : Int32)), (own_cnt p4 (3 : Int32)), (own_cnt p4 (4 : Int32)), (own_cnt p4 (5 : Int32)), (own_cnt p4 (6 : Int32))])), .val (.int ex), .unset, .unset] [(.int (own_cnt p4 (3 : Int32))), (.int (own_cnt p4 (3 : Int32)))])) t
        refine XS.icmpNo X82.here hx rfl (hb hby at_290) rfl (teq (rfl : (own_cnt p4 (3 : Int32)) = (own_cnt p4 (3 : Int32)))).2 ?_
        refine XS.aload X82.here hx rfl (hb hby at_293) rfl rfl ?_
        refine XS.iconst X82.here hx rfl (hb hby at_295) ?_
        exact k
      obtain ⟨cl83, Ar83, -, S83, M83, Ha83, G83⟩ := id f75
      have hin83 : ¬ ((4 : Int32) < 0 ∨ cl83.slots.size ≤ ((4 : Int32)).toNatClampNeg) := inb_of S83 ⟨by decide, by decide⟩
      have hat83 : cl83.slots[((4 : Int32)).toNatClampNeg]? = some (.int (own_cnt p4 (4 : Int32))) := Has.at Ha83 hin83 rfl
      refine own_go (B := T82.setTop (mkF m 297 #[.val (.int p0), .val (.int p1), .val (.int p2), .val (.int p3), .val (.int p4), .val (.int (1 : Int32)), .val (.int d0), .val (.int d1), .val (.int d2), .val (.ref b52), .val (.ref b67), .val (.int (own_am [d0] [(own_cnt p4 (0 : Int32)), (own_cnt p4 (1 : Int32)), (own_cnt p4 (2 : Int32)), (own_cnt p4 (3 : Int32)), (own_cnt p4 (4 : Int32)), (own_cnt p4 (5 : Int32)), (own_cnt p4 (6 : Int32))])), .val (.int ex), .unset, .unset] [(.int (own_cnt p4 (4 : Int32)))])) (fun t k => ?_) ?_
      · exact X82.iaload hx (j := (4 : Int32)) (v := (.int (own_cnt p4 (4 : Int32)))) (by rw [e82]; exact Ar83.1) (State.isArrayOf_alike hZ.alike Ar83.2.1) Ar83.2.2 hin83 hat83 (g := (mkF m 296 #[.val (.int p0), .val (.int p1), .val (.int p2), .val (.int p3), .val (.int p4), .val (.int (1 : Int32)), .val (.int d0), .val (.int d1), .val (.int d2), .val (.ref b52), .val (.ref b67), .val (.int (own_am [d0] [(own_cnt p4 (0 : Int32)), (own_cnt p4 (1 : Int32)), (own_cnt p4 (2 : Int32)), (own_cnt p4 (3 : Int32)), (own_cnt p4 (4 : Int32)), (own_cnt p4 (5 : Int32)), (own_cnt p4 (6 : Int32))])), .val (.int ex), .unset, .unset] [(.int (4 : Int32)), (.ref b52)])) rfl rfl (hb hby at_296) _ k
      refine own_go (B := T82.setTop (mkF m 300 #[.val (.int p0), .val (.int p1), .val (.int p2), .val (.int p3), .val (.int p4), .val (.int (1 : Int32)), .val (.int d0), .val (.int d1), .val (.int d2), .val (.ref b52), .val (.ref b67), .val (.int (own_am [d0] [(own_cnt p4 (0 : Int32)), (own_cnt p4 (1 : Int32)), (own_cnt p4 (2 : Int32)), (own_cnt p4 (3 : Int32)), (own_cnt p4 (4 : Int32)), (own_cnt p4 (5 : Int32)), (own_cnt p4 (6 : Int32))])), .val (.int ex), .unset, .unset] [(.int (4 : Int32)), (.int p4), (.int (own_cnt p4 (4 : Int32)))])) (fun t k => ?_) ?_
      · show Steps p.tables e below (T82.setTop (mkF m 297 #[.val (.int p0), .val (.int p1), .val (.int p2), .val (.int p3), .val (.int p4), .val (.int (1 : Int32)), .val (.int d0), .val (.int d1), .val (.int d2), .val (.ref b52), .val (.ref b67), .val (.int (own_am [d0] [(own_cnt p4 (0 : Int32)), (own_cnt p4 (1 : Int32)), (own_cnt p4 (2 : Int32)), (own_cnt p4 (3 : Int32)), (own_cnt p4 (4 : Int32)), (own_cnt p4 (5 : Int32)), (own_cnt p4 (6 : Int32))])), .val (.int ex), .unset, .unset] [(.int (own_cnt p4 (4 : Int32)))])) t
        refine XS.iload X82.here hx rfl (hb hby at_297) rfl ?_
        refine XS.iconst X82.here hx rfl (hb hby at_299) ?_
        exact k
      obtain ⟨_, _, ⟨T84, L84, k84, n84⟩, -, X84, ⟨Lc84, hQ84, l84, y84, z84⟩, st84⟩ := Jvm.LawKit.callS X82 hx (y := (⟨"com/example/rollhaus/rollhaus/dice/FacesAmongPinLaw", "cnt", "(II)I"⟩ : MethodName)) hown (mvT hZ (hw _ (List.mem_of_getElem? (i := 1) rfl))) (mvT hZ (hw _ (List.mem_of_getElem? (i := 2) rfl))) (mvT hZ (hw _ (List.mem_of_getElem? (i := 3) rfl))) (mvT hZ (hw _ (List.mem_of_getElem? (i := 4) rfl))) (by decide) (backOf (W := 1) (rm1 l Z a0 hw [] p4 (4 : Int32)  T70.heap n0 (Nat.le_trans Z0 K70.1) ) hZ (hw _ (List.mem_of_getElem? (i := 4) rfl)) (hw _ (List.mem_of_getElem? (i := 3) rfl)) (by decide) (by decide)) (g := (mkF m 300 #[.val (.int p0), .val (.int p1), .val (.int p2), .val (.int p3), .val (.int p4), .val (.int (1 : Int32)), .val (.int d0), .val (.int d1), .val (.int d2), .val (.ref b52), .val (.ref b67), .val (.int (own_am [d0] [(own_cnt p4 (0 : Int32)), (own_cnt p4 (1 : Int32)), (own_cnt p4 (2 : Int32)), (own_cnt p4 (3 : Int32)), (own_cnt p4 (4 : Int32)), (own_cnt p4 (5 : Int32)), (own_cnt p4 (6 : Int32))])), .val (.int ex), .unset, .unset] [(.int (4 : Int32)), (.int p4), (.int (own_cnt p4 (4 : Int32)))])) rfl (by rw [hml]; rfl) (argsL := [(.int p4), (.int (4 : Int32))]) (rest := [(.int (own_cnt p4 (4 : Int32)))]) (lenOf pd0_0 rfl) rfl (by show 2 * 0 + _ ≤ _; exact Nat.le_of_eq rfl) (hb hby at_300) (fun _ _ => ⟨rfl, e82, (by decide : 3 + 0 ≤ _), (by decide : 15 + 0 ≤ _)⟩)
      dsimp only [Pt.U, Pt.locs, Pt.cells, Pt.slots] at X84 l84 y84 z84 st84 hQ84
      subst y84 z84
      have X84 : Stand p l e room_1 s m #[(.int p0), (.int p1), (.int p2), (.int p3), (.int p4)] below meth c T84 _ 3 15 := X84
      obtain ⟨rfl, N84q, e84⟩ := hQ84
      have N84 : Fr n0 L84 := by rw [l84]; exact Fr.app N82 N84q
      refine own_go (st84) ?_
      show own_Fin p.tables e below (T84.setTop (mkF m 303 #[.val (.int p0), .val (.int p1), .val (.int p2), .val (.int p3), .val (.int p4), .val (.int (1 : Int32)), .val (.int d0), .val (.int d1), .val (.int d2), .val (.ref b52), .val (.ref b67), .val (.int (own_am [d0] [(own_cnt p4 (0 : Int32)), (own_cnt p4 (1 : Int32)), (own_cnt p4 (2 : Int32)), (own_cnt p4 (3 : Int32)), (own_cnt p4 (4 : Int32)), (own_cnt p4 (5 : Int32)), (own_cnt p4 (6 : Int32))])), .val (.int ex), .unset, .unset] [(.int (own_cnt p4 (4 : Int32))), (.int (own_cnt p4 (4 : Int32)))])) _
      refine own_go (B := T84.setTop (mkF m 309 #[.val (.int p0), .val (.int p1), .val (.int p2), .val (.int p3), .val (.int p4), .val (.int (1 : Int32)), .val (.int d0), .val (.int d1), .val (.int d2), .val (.ref b52), .val (.ref b67), .val (.int (own_am [d0] [(own_cnt p4 (0 : Int32)), (own_cnt p4 (1 : Int32)), (own_cnt p4 (2 : Int32)), (own_cnt p4 (3 : Int32)), (own_cnt p4 (4 : Int32)), (own_cnt p4 (5 : Int32)), (own_cnt p4 (6 : Int32))])), .val (.int ex), .unset, .unset] [(.int (5 : Int32)), (.ref b52)])) (fun t k => ?_) ?_
      · show Steps p.tables e below (T84.setTop (mkF m 303 #[.val (.int p0), .val (.int p1), .val (.int p2), .val (.int p3), .val (.int p4), .val (.int (1 : Int32)), .val (.int d0), .val (.int d1), .val (.int d2), .val (.ref b52), .val (.ref b67), .val (.int (own_am [d0] [(own_cnt p4 (0 : Int32)), (own_cnt p4 (1 : Int32)), (own_cnt p4 (2 : Int32)), (own_cnt p4 (3 : Int32)), (own_cnt p4 (4 : Int32)), (own_cnt p4 (5 : Int32)), (own_cnt p4 (6 : Int32))])), .val (.int ex), .unset, .unset] [(.int (own_cnt p4 (4 : Int32))), (.int (own_cnt p4 (4 : Int32)))])) t
        refine XS.icmpNo X84.here hx rfl (hb hby at_303) rfl (teq (rfl : (own_cnt p4 (4 : Int32)) = (own_cnt p4 (4 : Int32)))).2 ?_
        refine XS.aload X84.here hx rfl (hb hby at_306) rfl rfl ?_
        refine XS.iconst X84.here hx rfl (hb hby at_308) ?_
        exact k
      obtain ⟨cl85, Ar85, -, S85, M85, Ha85, G85⟩ := id f75
      have hin85 : ¬ ((5 : Int32) < 0 ∨ cl85.slots.size ≤ ((5 : Int32)).toNatClampNeg) := inb_of S85 ⟨by decide, by decide⟩
      have hat85 : cl85.slots[((5 : Int32)).toNatClampNeg]? = some (.int (own_cnt p4 (5 : Int32))) := Has.at Ha85 hin85 rfl
      refine own_go (B := T84.setTop (mkF m 310 #[.val (.int p0), .val (.int p1), .val (.int p2), .val (.int p3), .val (.int p4), .val (.int (1 : Int32)), .val (.int d0), .val (.int d1), .val (.int d2), .val (.ref b52), .val (.ref b67), .val (.int (own_am [d0] [(own_cnt p4 (0 : Int32)), (own_cnt p4 (1 : Int32)), (own_cnt p4 (2 : Int32)), (own_cnt p4 (3 : Int32)), (own_cnt p4 (4 : Int32)), (own_cnt p4 (5 : Int32)), (own_cnt p4 (6 : Int32))])), .val (.int ex), .unset, .unset] [(.int (own_cnt p4 (5 : Int32)))])) (fun t k => ?_) ?_
      · exact X84.iaload hx (j := (5 : Int32)) (v := (.int (own_cnt p4 (5 : Int32)))) (by rw [e84]; exact Ar85.1) (State.isArrayOf_alike hZ.alike Ar85.2.1) Ar85.2.2 hin85 hat85 (g := (mkF m 309 #[.val (.int p0), .val (.int p1), .val (.int p2), .val (.int p3), .val (.int p4), .val (.int (1 : Int32)), .val (.int d0), .val (.int d1), .val (.int d2), .val (.ref b52), .val (.ref b67), .val (.int (own_am [d0] [(own_cnt p4 (0 : Int32)), (own_cnt p4 (1 : Int32)), (own_cnt p4 (2 : Int32)), (own_cnt p4 (3 : Int32)), (own_cnt p4 (4 : Int32)), (own_cnt p4 (5 : Int32)), (own_cnt p4 (6 : Int32))])), .val (.int ex), .unset, .unset] [(.int (5 : Int32)), (.ref b52)])) rfl rfl (hb hby at_309) _ k
      refine own_go (B := T84.setTop (mkF m 313 #[.val (.int p0), .val (.int p1), .val (.int p2), .val (.int p3), .val (.int p4), .val (.int (1 : Int32)), .val (.int d0), .val (.int d1), .val (.int d2), .val (.ref b52), .val (.ref b67), .val (.int (own_am [d0] [(own_cnt p4 (0 : Int32)), (own_cnt p4 (1 : Int32)), (own_cnt p4 (2 : Int32)), (own_cnt p4 (3 : Int32)), (own_cnt p4 (4 : Int32)), (own_cnt p4 (5 : Int32)), (own_cnt p4 (6 : Int32))])), .val (.int ex), .unset, .unset] [(.int (5 : Int32)), (.int p4), (.int (own_cnt p4 (5 : Int32)))])) (fun t k => ?_) ?_
      · show Steps p.tables e below (T84.setTop (mkF m 310 #[.val (.int p0), .val (.int p1), .val (.int p2), .val (.int p3), .val (.int p4), .val (.int (1 : Int32)), .val (.int d0), .val (.int d1), .val (.int d2), .val (.ref b52), .val (.ref b67), .val (.int (own_am [d0] [(own_cnt p4 (0 : Int32)), (own_cnt p4 (1 : Int32)), (own_cnt p4 (2 : Int32)), (own_cnt p4 (3 : Int32)), (own_cnt p4 (4 : Int32)), (own_cnt p4 (5 : Int32)), (own_cnt p4 (6 : Int32))])), .val (.int ex), .unset, .unset] [(.int (own_cnt p4 (5 : Int32)))])) t
        refine XS.iload X84.here hx rfl (hb hby at_310) rfl ?_
        refine XS.iconst X84.here hx rfl (hb hby at_312) ?_
        exact k
      obtain ⟨_, _, ⟨T86, L86, k86, n86⟩, -, X86, ⟨Lc86, hQ86, l86, y86, z86⟩, st86⟩ := Jvm.LawKit.callS X84 hx (y := (⟨"com/example/rollhaus/rollhaus/dice/FacesAmongPinLaw", "cnt", "(II)I"⟩ : MethodName)) hown (mvT hZ (hw _ (List.mem_of_getElem? (i := 1) rfl))) (mvT hZ (hw _ (List.mem_of_getElem? (i := 2) rfl))) (mvT hZ (hw _ (List.mem_of_getElem? (i := 3) rfl))) (mvT hZ (hw _ (List.mem_of_getElem? (i := 4) rfl))) (by decide) (backOf (W := 1) (rm1 l Z a0 hw [] p4 (5 : Int32)  T70.heap n0 (Nat.le_trans Z0 K70.1) ) hZ (hw _ (List.mem_of_getElem? (i := 4) rfl)) (hw _ (List.mem_of_getElem? (i := 3) rfl)) (by decide) (by decide)) (g := (mkF m 313 #[.val (.int p0), .val (.int p1), .val (.int p2), .val (.int p3), .val (.int p4), .val (.int (1 : Int32)), .val (.int d0), .val (.int d1), .val (.int d2), .val (.ref b52), .val (.ref b67), .val (.int (own_am [d0] [(own_cnt p4 (0 : Int32)), (own_cnt p4 (1 : Int32)), (own_cnt p4 (2 : Int32)), (own_cnt p4 (3 : Int32)), (own_cnt p4 (4 : Int32)), (own_cnt p4 (5 : Int32)), (own_cnt p4 (6 : Int32))])), .val (.int ex), .unset, .unset] [(.int (5 : Int32)), (.int p4), (.int (own_cnt p4 (5 : Int32)))])) rfl (by rw [hml]; rfl) (argsL := [(.int p4), (.int (5 : Int32))]) (rest := [(.int (own_cnt p4 (5 : Int32)))]) (lenOf pd0_0 rfl) rfl (by show 2 * 0 + _ ≤ _; exact Nat.le_of_eq rfl) (hb hby at_313) (fun _ _ => ⟨rfl, e84, (by decide : 3 + 0 ≤ _), (by decide : 15 + 0 ≤ _)⟩)
      dsimp only [Pt.U, Pt.locs, Pt.cells, Pt.slots] at X86 l86 y86 z86 st86 hQ86
      subst y86 z86
      have X86 : Stand p l e room_1 s m #[(.int p0), (.int p1), (.int p2), (.int p3), (.int p4)] below meth c T86 _ 3 15 := X86
      obtain ⟨rfl, N86q, e86⟩ := hQ86
      have N86 : Fr n0 L86 := by rw [l86]; exact Fr.app N84 N86q
      refine own_go (st86) ?_
      show own_Fin p.tables e below (T86.setTop (mkF m 316 #[.val (.int p0), .val (.int p1), .val (.int p2), .val (.int p3), .val (.int p4), .val (.int (1 : Int32)), .val (.int d0), .val (.int d1), .val (.int d2), .val (.ref b52), .val (.ref b67), .val (.int (own_am [d0] [(own_cnt p4 (0 : Int32)), (own_cnt p4 (1 : Int32)), (own_cnt p4 (2 : Int32)), (own_cnt p4 (3 : Int32)), (own_cnt p4 (4 : Int32)), (own_cnt p4 (5 : Int32)), (own_cnt p4 (6 : Int32))])), .val (.int ex), .unset, .unset] [(.int (own_cnt p4 (5 : Int32))), (.int (own_cnt p4 (5 : Int32)))])) _
      refine own_go (B := T86.setTop (mkF m 323 #[.val (.int p0), .val (.int p1), .val (.int p2), .val (.int p3), .val (.int p4), .val (.int (1 : Int32)), .val (.int d0), .val (.int d1), .val (.int d2), .val (.ref b52), .val (.ref b67), .val (.int (own_am [d0] [(own_cnt p4 (0 : Int32)), (own_cnt p4 (1 : Int32)), (own_cnt p4 (2 : Int32)), (own_cnt p4 (3 : Int32)), (own_cnt p4 (4 : Int32)), (own_cnt p4 (5 : Int32)), (own_cnt p4 (6 : Int32))])), .val (.int ex), .unset, .unset] [(.int (6 : Int32)), (.ref b52)])) (fun t k => ?_) ?_
      · show Steps p.tables e below (T86.setTop (mkF m 316 #[.val (.int p0), .val (.int p1), .val (.int p2), .val (.int p3), .val (.int p4), .val (.int (1 : Int32)), .val (.int d0), .val (.int d1), .val (.int d2), .val (.ref b52), .val (.ref b67), .val (.int (own_am [d0] [(own_cnt p4 (0 : Int32)), (own_cnt p4 (1 : Int32)), (own_cnt p4 (2 : Int32)), (own_cnt p4 (3 : Int32)), (own_cnt p4 (4 : Int32)), (own_cnt p4 (5 : Int32)), (own_cnt p4 (6 : Int32))])), .val (.int ex), .unset, .unset] [(.int (own_cnt p4 (5 : Int32))), (.int (own_cnt p4 (5 : Int32)))])) t
        refine XS.icmpNo X86.here hx rfl (hb hby at_316) rfl (teq (rfl : (own_cnt p4 (5 : Int32)) = (own_cnt p4 (5 : Int32)))).2 ?_
        refine XS.aload X86.here hx rfl (hb hby at_319) rfl rfl ?_
        refine XS.bipush X86.here hx rfl (hb hby at_321) ?_
        exact k
      obtain ⟨cl87, Ar87, -, S87, M87, Ha87, G87⟩ := id f75
      have hin87 : ¬ ((6 : Int32) < 0 ∨ cl87.slots.size ≤ ((6 : Int32)).toNatClampNeg) := inb_of S87 ⟨by decide, by decide⟩
      have hat87 : cl87.slots[((6 : Int32)).toNatClampNeg]? = some (.int (own_cnt p4 (6 : Int32))) := Has.at Ha87 hin87 rfl
      refine own_go (B := T86.setTop (mkF m 324 #[.val (.int p0), .val (.int p1), .val (.int p2), .val (.int p3), .val (.int p4), .val (.int (1 : Int32)), .val (.int d0), .val (.int d1), .val (.int d2), .val (.ref b52), .val (.ref b67), .val (.int (own_am [d0] [(own_cnt p4 (0 : Int32)), (own_cnt p4 (1 : Int32)), (own_cnt p4 (2 : Int32)), (own_cnt p4 (3 : Int32)), (own_cnt p4 (4 : Int32)), (own_cnt p4 (5 : Int32)), (own_cnt p4 (6 : Int32))])), .val (.int ex), .unset, .unset] [(.int (own_cnt p4 (6 : Int32)))])) (fun t k => ?_) ?_
      · exact X86.iaload hx (j := (6 : Int32)) (v := (.int (own_cnt p4 (6 : Int32)))) (by rw [e86]; exact Ar87.1) (State.isArrayOf_alike hZ.alike Ar87.2.1) Ar87.2.2 hin87 hat87 (g := (mkF m 323 #[.val (.int p0), .val (.int p1), .val (.int p2), .val (.int p3), .val (.int p4), .val (.int (1 : Int32)), .val (.int d0), .val (.int d1), .val (.int d2), .val (.ref b52), .val (.ref b67), .val (.int (own_am [d0] [(own_cnt p4 (0 : Int32)), (own_cnt p4 (1 : Int32)), (own_cnt p4 (2 : Int32)), (own_cnt p4 (3 : Int32)), (own_cnt p4 (4 : Int32)), (own_cnt p4 (5 : Int32)), (own_cnt p4 (6 : Int32))])), .val (.int ex), .unset, .unset] [(.int (6 : Int32)), (.ref b52)])) rfl rfl (hb hby at_323) _ k
      refine own_go (B := T86.setTop (mkF m 328 #[.val (.int p0), .val (.int p1), .val (.int p2), .val (.int p3), .val (.int p4), .val (.int (1 : Int32)), .val (.int d0), .val (.int d1), .val (.int d2), .val (.ref b52), .val (.ref b67), .val (.int (own_am [d0] [(own_cnt p4 (0 : Int32)), (own_cnt p4 (1 : Int32)), (own_cnt p4 (2 : Int32)), (own_cnt p4 (3 : Int32)), (own_cnt p4 (4 : Int32)), (own_cnt p4 (5 : Int32)), (own_cnt p4 (6 : Int32))])), .val (.int ex), .unset, .unset] [(.int (6 : Int32)), (.int p4), (.int (own_cnt p4 (6 : Int32)))])) (fun t k => ?_) ?_
      · show Steps p.tables e below (T86.setTop (mkF m 324 #[.val (.int p0), .val (.int p1), .val (.int p2), .val (.int p3), .val (.int p4), .val (.int (1 : Int32)), .val (.int d0), .val (.int d1), .val (.int d2), .val (.ref b52), .val (.ref b67), .val (.int (own_am [d0] [(own_cnt p4 (0 : Int32)), (own_cnt p4 (1 : Int32)), (own_cnt p4 (2 : Int32)), (own_cnt p4 (3 : Int32)), (own_cnt p4 (4 : Int32)), (own_cnt p4 (5 : Int32)), (own_cnt p4 (6 : Int32))])), .val (.int ex), .unset, .unset] [(.int (own_cnt p4 (6 : Int32)))])) t
        refine XS.iload X86.here hx rfl (hb hby at_324) rfl ?_
        refine XS.bipush X86.here hx rfl (hb hby at_326) ?_
        exact k
      obtain ⟨_, _, ⟨T88, L88, k88, n88⟩, -, X88, ⟨Lc88, hQ88, l88, y88, z88⟩, st88⟩ := Jvm.LawKit.callS X86 hx (y := (⟨"com/example/rollhaus/rollhaus/dice/FacesAmongPinLaw", "cnt", "(II)I"⟩ : MethodName)) hown (mvT hZ (hw _ (List.mem_of_getElem? (i := 1) rfl))) (mvT hZ (hw _ (List.mem_of_getElem? (i := 2) rfl))) (mvT hZ (hw _ (List.mem_of_getElem? (i := 3) rfl))) (mvT hZ (hw _ (List.mem_of_getElem? (i := 4) rfl))) (by decide) (backOf (W := 1) (rm1 l Z a0 hw [] p4 (6 : Int32)  T70.heap n0 (Nat.le_trans Z0 K70.1) ) hZ (hw _ (List.mem_of_getElem? (i := 4) rfl)) (hw _ (List.mem_of_getElem? (i := 3) rfl)) (by decide) (by decide)) (g := (mkF m 328 #[.val (.int p0), .val (.int p1), .val (.int p2), .val (.int p3), .val (.int p4), .val (.int (1 : Int32)), .val (.int d0), .val (.int d1), .val (.int d2), .val (.ref b52), .val (.ref b67), .val (.int (own_am [d0] [(own_cnt p4 (0 : Int32)), (own_cnt p4 (1 : Int32)), (own_cnt p4 (2 : Int32)), (own_cnt p4 (3 : Int32)), (own_cnt p4 (4 : Int32)), (own_cnt p4 (5 : Int32)), (own_cnt p4 (6 : Int32))])), .val (.int ex), .unset, .unset] [(.int (6 : Int32)), (.int p4), (.int (own_cnt p4 (6 : Int32)))])) rfl (by rw [hml]; rfl) (argsL := [(.int p4), (.int (6 : Int32))]) (rest := [(.int (own_cnt p4 (6 : Int32)))]) (lenOf pd0_0 rfl) rfl (by show 2 * 0 + _ ≤ _; exact Nat.le_of_eq rfl) (hb hby at_328) (fun _ _ => ⟨rfl, e86, (by decide : 3 + 0 ≤ _), (by decide : 15 + 0 ≤ _)⟩)
      dsimp only [Pt.U, Pt.locs, Pt.cells, Pt.slots] at X88 l88 y88 z88 st88 hQ88
      subst y88 z88
      have X88 : Stand p l e room_1 s m #[(.int p0), (.int p1), (.int p2), (.int p3), (.int p4)] below meth c T88 _ 3 15 := X88
      obtain ⟨rfl, N88q, e88⟩ := hQ88
      have N88 : Fr n0 L88 := by rw [l88]; exact Fr.app N86 N88q
      refine own_go (st88) ?_
      show own_Fin p.tables e below (T88.setTop (mkF m 331 #[.val (.int p0), .val (.int p1), .val (.int p2), .val (.int p3), .val (.int p4), .val (.int (1 : Int32)), .val (.int d0), .val (.int d1), .val (.int d2), .val (.ref b52), .val (.ref b67), .val (.int (own_am [d0] [(own_cnt p4 (0 : Int32)), (own_cnt p4 (1 : Int32)), (own_cnt p4 (2 : Int32)), (own_cnt p4 (3 : Int32)), (own_cnt p4 (4 : Int32)), (own_cnt p4 (5 : Int32)), (own_cnt p4 (6 : Int32))])), .val (.int ex), .unset, .unset] [(.int (own_cnt p4 (6 : Int32))), (.int (own_cnt p4 (6 : Int32)))])) _
      refine own_go (B := T88.setTop (mkF m 343 #[.val (.int p0), .val (.int p1), .val (.int p2), .val (.int p3), .val (.int p4), .val (.int (1 : Int32)), .val (.int d0), .val (.int d1), .val (.int d2), .val (.ref b52), .val (.ref b67), .val (.int (own_am [d0] [(own_cnt p4 (0 : Int32)), (own_cnt p4 (1 : Int32)), (own_cnt p4 (2 : Int32)), (own_cnt p4 (3 : Int32)), (own_cnt p4 (4 : Int32)), (own_cnt p4 (5 : Int32)), (own_cnt p4 (6 : Int32))])), .val (.int ex), .val (.int (1 : Int32)), .unset] [(.ref b67)])) (fun t k => ?_) ?_
      · show Steps p.tables e below (T88.setTop (mkF m 331 #[.val (.int p0), .val (.int p1), .val (.int p2), .val (.int p3), .val (.int p4), .val (.int (1 : Int32)), .val (.int d0), .val (.int d1), .val (.int d2), .val (.ref b52), .val (.ref b67), .val (.int (own_am [d0] [(own_cnt p4 (0 : Int32)), (own_cnt p4 (1 : Int32)), (own_cnt p4 (2 : Int32)), (own_cnt p4 (3 : Int32)), (own_cnt p4 (4 : Int32)), (own_cnt p4 (5 : Int32)), (own_cnt p4 (6 : Int32))])), .val (.int ex), .unset, .unset] [(.int (own_cnt p4 (6 : Int32))), (.int (own_cnt p4 (6 : Int32)))])) t
        refine XS.icmpNo X88.here hx rfl (hb hby at_331) rfl (teq (rfl : (own_cnt p4 (6 : Int32)) = (own_cnt p4 (6 : Int32)))).2 ?_
        refine XS.iconst X88.here hx rfl (hb hby at_334) ?_
        refine XS.goto X88.here hx rfl (pc0 := 335) (pc' := 339) rfl (hb hby at_335) (by decide) (by decide) ?_
        refine XS.istore X88.here hx rfl (hb hby at_339) rfl (l' := #[.val (.int p0), .val (.int p1), .val (.int p2), .val (.int p3), .val (.int p4), .val (.int (1 : Int32)), .val (.int d0), .val (.int d1), .val (.int d2), .val (.ref b52), .val (.ref b67), .val (.int (own_am [d0] [(own_cnt p4 (0 : Int32)), (own_cnt p4 (1 : Int32)), (own_cnt p4 (2 : Int32)), (own_cnt p4 (3 : Int32)), (own_cnt p4 (4 : Int32)), (own_cnt p4 (5 : Int32)), (own_cnt p4 (6 : Int32))])), .val (.int ex), .val (.int (1 : Int32)), .unset]) rfl ?_
        show Steps p.tables e below (T88.setTop (mkF m 341 #[.val (.int p0), .val (.int p1), .val (.int p2), .val (.int p3), .val (.int p4), .val (.int (1 : Int32)), .val (.int d0), .val (.int d1), .val (.int d2), .val (.ref b52), .val (.ref b67), .val (.int (own_am [d0] [(own_cnt p4 (0 : Int32)), (own_cnt p4 (1 : Int32)), (own_cnt p4 (2 : Int32)), (own_cnt p4 (3 : Int32)), (own_cnt p4 (4 : Int32)), (own_cnt p4 (5 : Int32)), (own_cnt p4 (6 : Int32))])), .val (.int ex), .val (.int (1 : Int32)), .unset] [])) t
        refine XS.aload X88.here hx rfl (hb hby at_341) rfl rfl ?_
        exact k
      have f90 := (V69.keep Kq70 nin0)
      obtain ⟨cl89, Ar89, -, S89, M89, -, -⟩ := id f90
      refine own_go (B := T88.setTop (mkF m 344 #[.val (.int p0), .val (.int p1), .val (.int p2), .val (.int p3), .val (.int p4), .val (.int (1 : Int32)), .val (.int d0), .val (.int d1), .val (.int d2), .val (.ref b52), .val (.ref b67), .val (.int (own_am [d0] [(own_cnt p4 (0 : Int32)), (own_cnt p4 (1 : Int32)), (own_cnt p4 (2 : Int32)), (own_cnt p4 (3 : Int32)), (own_cnt p4 (4 : Int32)), (own_cnt p4 (5 : Int32)), (own_cnt p4 (6 : Int32))])), .val (.int ex), .val (.int (1 : Int32)), .unset] [(.int (1 : Int32))])) (fun t k => ?_) ?_
      · refine X88.arraylength hx (by rw [e88]; exact Ar89.1) (State.isArrayOf_alike hZ.alike Ar89.2.1) (g := (mkF m 343 #[.val (.int p0), .val (.int p1), .val (.int p2), .val (.int p3), .val (.int p4), .val (.int (1 : Int32)), .val (.int d0), .val (.int d1), .val (.int d2), .val (.ref b52), .val (.ref b67), .val (.int (own_am [d0] [(own_cnt p4 (0 : Int32)), (own_cnt p4 (1 : Int32)), (own_cnt p4 (2 : Int32)), (own_cnt p4 (3 : Int32)), (own_cnt p4 (4 : Int32)), (own_cnt p4 (5 : Int32)), (own_cnt p4 (6 : Int32))])), .val (.int ex), .val (.int (1 : Int32)), .unset] [(.ref b67)])) rfl rfl (hb hby at_343) _ ?_
        rw [len_of S89 M89]
        exact k
      refine own_go (B := T88.setTop (mkF m 358 #[.val (.int p0), .val (.int p1), .val (.int p2), .val (.int p3), .val (.int p4), .val (.int (1 : Int32)), .val (.int d0), .val (.int d1), .val (.int d2), .val (.ref b52), .val (.ref b67), .val (.int (own_am [d0] [(own_cnt p4 (0 : Int32)), (own_cnt p4 (1 : Int32)), (own_cnt p4 (2 : Int32)), (own_cnt p4 (3 : Int32)), (own_cnt p4 (4 : Int32)), (own_cnt p4 (5 : Int32)), (own_cnt p4 (6 : Int32))])), .val (.int ex), .val (.int (1 : Int32)), .unset] [(.int (0 : Int32)), (.ref b67)])) (fun t k => ?_) ?_
      · show Steps p.tables e below (T88.setTop (mkF m 344 #[.val (.int p0), .val (.int p1), .val (.int p2), .val (.int p3), .val (.int p4), .val (.int (1 : Int32)), .val (.int d0), .val (.int d1), .val (.int d2), .val (.ref b52), .val (.ref b67), .val (.int (own_am [d0] [(own_cnt p4 (0 : Int32)), (own_cnt p4 (1 : Int32)), (own_cnt p4 (2 : Int32)), (own_cnt p4 (3 : Int32)), (own_cnt p4 (4 : Int32)), (own_cnt p4 (5 : Int32)), (own_cnt p4 (6 : Int32))])), .val (.int ex), .val (.int (1 : Int32)), .unset] [(.int (1 : Int32))])) t
        refine XS.iload X88.here hx rfl (hb hby at_344) rfl ?_
        refine XS.icmpNo X88.here hx rfl (hb hby at_346) rfl (teq (rfl : (1 : Int32) = (1 : Int32))).2 ?_
        refine XS.iload X88.here hx rfl (hb hby at_349) rfl ?_
        refine XS.iconst X88.here hx rfl (hb hby at_351) ?_
        show Steps p.tables e below (T88.setTop (mkF m 352 #[.val (.int p0), .val (.int p1), .val (.int p2), .val (.int p3), .val (.int p4), .val (.int (1 : Int32)), .val (.int d0), .val (.int d1), .val (.int d2), .val (.ref b52), .val (.ref b67), .val (.int (own_am [d0] [(own_cnt p4 (0 : Int32)), (own_cnt p4 (1 : Int32)), (own_cnt p4 (2 : Int32)), (own_cnt p4 (3 : Int32)), (own_cnt p4 (4 : Int32)), (own_cnt p4 (5 : Int32)), (own_cnt p4 (6 : Int32))])), .val (.int ex), .val (.int (1 : Int32)), .unset] [(.int (1 : Int32)), (.int (1 : Int32))])) t
        refine XS.icmpNo X88.here hx rfl (hb hby at_352) rfl (flt (by decide : ¬ ((1 : Int32) < (1 : Int32)))).1 ?_
        refine XS.aload X88.here hx rfl (hb hby at_355) rfl rfl ?_
        refine XS.iconst X88.here hx rfl (hb hby at_357) ?_
        exact k
      obtain ⟨cl91, Ar91, -, S91, M91, Ha91, G91⟩ := id f90
      have hin91 : ¬ ((0 : Int32) < 0 ∨ cl91.slots.size ≤ ((0 : Int32)).toNatClampNeg) := inb_of S91 ⟨by decide, by decide⟩
      have hat91 : cl91.slots[((0 : Int32)).toNatClampNeg]? = some (.int d0) := Has.at Ha91 hin91 rfl
      refine own_go (B := T88.setTop (mkF m 359 #[.val (.int p0), .val (.int p1), .val (.int p2), .val (.int p3), .val (.int p4), .val (.int (1 : Int32)), .val (.int d0), .val (.int d1), .val (.int d2), .val (.ref b52), .val (.ref b67), .val (.int (own_am [d0] [(own_cnt p4 (0 : Int32)), (own_cnt p4 (1 : Int32)), (own_cnt p4 (2 : Int32)), (own_cnt p4 (3 : Int32)), (own_cnt p4 (4 : Int32)), (own_cnt p4 (5 : Int32)), (own_cnt p4 (6 : Int32))])), .val (.int ex), .val (.int (1 : Int32)), .unset] [(.int d0)])) (fun t k => ?_) ?_
      · exact X88.iaload hx (j := (0 : Int32)) (v := (.int d0)) (by rw [e88]; exact Ar91.1) (State.isArrayOf_alike hZ.alike Ar91.2.1) Ar91.2.2 hin91 hat91 (g := (mkF m 358 #[.val (.int p0), .val (.int p1), .val (.int p2), .val (.int p3), .val (.int p4), .val (.int (1 : Int32)), .val (.int d0), .val (.int d1), .val (.int d2), .val (.ref b52), .val (.ref b67), .val (.int (own_am [d0] [(own_cnt p4 (0 : Int32)), (own_cnt p4 (1 : Int32)), (own_cnt p4 (2 : Int32)), (own_cnt p4 (3 : Int32)), (own_cnt p4 (4 : Int32)), (own_cnt p4 (5 : Int32)), (own_cnt p4 (6 : Int32))])), .val (.int ex), .val (.int (1 : Int32)), .unset] [(.int (0 : Int32)), (.ref b67)])) rfl rfl (hb hby at_358) _ k
      refine own_go (B := T88.setTop (mkF m 405 #[.val (.int p0), .val (.int p1), .val (.int p2), .val (.int p3), .val (.int p4), .val (.int (1 : Int32)), .val (.int d0), .val (.int d1), .val (.int d2), .val (.ref b52), .val (.ref b67), .val (.int (own_am [d0] [(own_cnt p4 (0 : Int32)), (own_cnt p4 (1 : Int32)), (own_cnt p4 (2 : Int32)), (own_cnt p4 (3 : Int32)), (own_cnt p4 (4 : Int32)), (own_cnt p4 (5 : Int32)), (own_cnt p4 (6 : Int32))])), .val (.int ex), .val (.int (1 : Int32)), .val (.int (1 : Int32))] [(.int ex), (.int (own_am [d0] [(own_cnt p4 (0 : Int32)), (own_cnt p4 (1 : Int32)), (own_cnt p4 (2 : Int32)), (own_cnt p4 (3 : Int32)), (own_cnt p4 (4 : Int32)), (own_cnt p4 (5 : Int32)), (own_cnt p4 (6 : Int32))]))])) (fun t k => ?_) ?_
      · show Steps p.tables e below (T88.setTop (mkF m 359 #[.val (.int p0), .val (.int p1), .val (.int p2), .val (.int p3), .val (.int p4), .val (.int (1 : Int32)), .val (.int d0), .val (.int d1), .val (.int d2), .val (.ref b52), .val (.ref b67), .val (.int (own_am [d0] [(own_cnt p4 (0 : Int32)), (own_cnt p4 (1 : Int32)), (own_cnt p4 (2 : Int32)), (own_cnt p4 (3 : Int32)), (own_cnt p4 (4 : Int32)), (own_cnt p4 (5 : Int32)), (own_cnt p4 (6 : Int32))])), .val (.int ex), .val (.int (1 : Int32)), .unset] [(.int d0)])) t
        refine XS.iload X88.here hx rfl (hb hby at_359) rfl ?_
        refine XS.icmpNo X88.here hx rfl (hb hby at_361) rfl (teq (rfl : d0 = d0)).2 ?_
        refine XS.iload X88.here hx rfl (hb hby at_364) rfl ?_
        refine XS.iconst X88.here hx rfl (hb hby at_366) ?_
        show Steps p.tables e below (T88.setTop (mkF m 367 #[.val (.int p0), .val (.int p1), .val (.int p2), .val (.int p3), .val (.int p4), .val (.int (1 : Int32)), .val (.int d0), .val (.int d1), .val (.int d2), .val (.ref b52), .val (.ref b67), .val (.int (own_am [d0] [(own_cnt p4 (0 : Int32)), (own_cnt p4 (1 : Int32)), (own_cnt p4 (2 : Int32)), (own_cnt p4 (3 : Int32)), (own_cnt p4 (4 : Int32)), (own_cnt p4 (5 : Int32)), (own_cnt p4 (6 : Int32))])), .val (.int ex), .val (.int (1 : Int32)), .unset] [(.int (2 : Int32)), (.int (1 : Int32))])) t
        refine XS.icmpYes X88.here hx rfl (pc0 := 367) (pc' := 379) rfl (hb hby at_367) rfl (tlt (by decide : (1 : Int32) < (2 : Int32))).1 (by decide) (by decide) ?_
        refine XS.iload X88.here hx rfl (hb hby at_379) rfl ?_
        refine XS.iconst X88.here hx rfl (hb hby at_381) ?_
        refine XS.icmpYes X88.here hx rfl (pc0 := 382) (pc' := 394) rfl (hb hby at_382) rfl (tlt (by decide : (1 : Int32) < (3 : Int32))).1 (by decide) (by decide) ?_
        show Steps p.tables e below (T88.setTop (mkF m 394 #[.val (.int p0), .val (.int p1), .val (.int p2), .val (.int p3), .val (.int p4), .val (.int (1 : Int32)), .val (.int d0), .val (.int d1), .val (.int d2), .val (.ref b52), .val (.ref b67), .val (.int (own_am [d0] [(own_cnt p4 (0 : Int32)), (own_cnt p4 (1 : Int32)), (own_cnt p4 (2 : Int32)), (own_cnt p4 (3 : Int32)), (own_cnt p4 (4 : Int32)), (own_cnt p4 (5 : Int32)), (own_cnt p4 (6 : Int32))])), .val (.int ex), .val (.int (1 : Int32)), .unset] [])) t
        refine XS.iconst X88.here hx rfl (hb hby at_394) ?_
        refine XS.goto X88.here hx rfl (pc0 := 395) (pc' := 399) rfl (hb hby at_395) (by decide) (by decide) ?_
        refine XS.istore X88.here hx rfl (hb hby at_399) rfl (l' := #[.val (.int p0), .val (.int p1), .val (.int p2), .val (.int p3), .val (.int p4), .val (.int (1 : Int32)), .val (.int d0), .val (.int d1), .val (.int d2), .val (.ref b52), .val (.ref b67), .val (.int (own_am [d0] [(own_cnt p4 (0 : Int32)), (own_cnt p4 (1 : Int32)), (own_cnt p4 (2 : Int32)), (own_cnt p4 (3 : Int32)), (own_cnt p4 (4 : Int32)), (own_cnt p4 (5 : Int32)), (own_cnt p4 (6 : Int32))])), .val (.int ex), .val (.int (1 : Int32)), .val (.int (1 : Int32))]) rfl ?_
        refine XS.iload X88.here hx rfl (hb hby at_401) rfl ?_
        show Steps p.tables e below (T88.setTop (mkF m 403 #[.val (.int p0), .val (.int p1), .val (.int p2), .val (.int p3), .val (.int p4), .val (.int (1 : Int32)), .val (.int d0), .val (.int d1), .val (.int d2), .val (.ref b52), .val (.ref b67), .val (.int (own_am [d0] [(own_cnt p4 (0 : Int32)), (own_cnt p4 (1 : Int32)), (own_cnt p4 (2 : Int32)), (own_cnt p4 (3 : Int32)), (own_cnt p4 (4 : Int32)), (own_cnt p4 (5 : Int32)), (own_cnt p4 (6 : Int32))])), .val (.int ex), .val (.int (1 : Int32)), .val (.int (1 : Int32))] [(.int (own_am [d0] [(own_cnt p4 (0 : Int32)), (own_cnt p4 (1 : Int32)), (own_cnt p4 (2 : Int32)), (own_cnt p4 (3 : Int32)), (own_cnt p4 (4 : Int32)), (own_cnt p4 (5 : Int32)), (own_cnt p4 (6 : Int32))]))])) t
        refine XS.iload X88.here hx rfl (hb hby at_403) rfl ?_
        exact k
      have hc92 : (own_am [d0] [(own_cnt p4 (0 : Int32)), (own_cnt p4 (1 : Int32)), (own_cnt p4 (2 : Int32)), (own_cnt p4 (3 : Int32)), (own_cnt p4 (4 : Int32)), (own_cnt p4 (5 : Int32)), (own_cnt p4 (6 : Int32))]) = ex := hex
      refine own_go (B := T88.setTop (mkF m 423 #[.val (.int p0), .val (.int p1), .val (.int p2), .val (.int p3), .val (.int p4), .val (.int (1 : Int32)), .val (.int d0), .val (.int d1), .val (.int d2), .val (.ref b52), .val (.ref b67), .val (.int (own_am [d0] [(own_cnt p4 (0 : Int32)), (own_cnt p4 (1 : Int32)), (own_cnt p4 (2 : Int32)), (own_cnt p4 (3 : Int32)), (own_cnt p4 (4 : Int32)), (own_cnt p4 (5 : Int32)), (own_cnt p4 (6 : Int32))])), .val (.int ex), .val (.int (1 : Int32)), .val (.int (1 : Int32))] [(.int (1 : Int32))])) (fun t k => ?_) ?_
      · show Steps p.tables e below (T88.setTop (mkF m 405 #[.val (.int p0), .val (.int p1), .val (.int p2), .val (.int p3), .val (.int p4), .val (.int (1 : Int32)), .val (.int d0), .val (.int d1), .val (.int d2), .val (.ref b52), .val (.ref b67), .val (.int (own_am [d0] [(own_cnt p4 (0 : Int32)), (own_cnt p4 (1 : Int32)), (own_cnt p4 (2 : Int32)), (own_cnt p4 (3 : Int32)), (own_cnt p4 (4 : Int32)), (own_cnt p4 (5 : Int32)), (own_cnt p4 (6 : Int32))])), .val (.int ex), .val (.int (1 : Int32)), .val (.int (1 : Int32))] [(.int ex), (.int (own_am [d0] [(own_cnt p4 (0 : Int32)), (own_cnt p4 (1 : Int32)), (own_cnt p4 (2 : Int32)), (own_cnt p4 (3 : Int32)), (own_cnt p4 (4 : Int32)), (own_cnt p4 (5 : Int32)), (own_cnt p4 (6 : Int32))]))])) t
        refine XS.icmpNo X88.here hx rfl (hb hby at_405) rfl (teq hc92).2 ?_
        refine XS.iload X88.here hx rfl (hb hby at_408) rfl ?_
        refine XS.ifNo X88.here hx rfl (hb hby at_410) rfl ((if0 _ _).trans (feq (by decide : ¬ ((1 : Int32) = (0 : Int32)))).1) ?_
        refine XS.iload X88.here hx rfl (hb hby at_413) rfl ?_
        show Steps p.tables e below (T88.setTop (mkF m 415 #[.val (.int p0), .val (.int p1), .val (.int p2), .val (.int p3), .val (.int p4), .val (.int (1 : Int32)), .val (.int d0), .val (.int d1), .val (.int d2), .val (.ref b52), .val (.ref b67), .val (.int (own_am [d0] [(own_cnt p4 (0 : Int32)), (own_cnt p4 (1 : Int32)), (own_cnt p4 (2 : Int32)), (own_cnt p4 (3 : Int32)), (own_cnt p4 (4 : Int32)), (own_cnt p4 (5 : Int32)), (own_cnt p4 (6 : Int32))])), .val (.int ex), .val (.int (1 : Int32)), .val (.int (1 : Int32))] [(.int (1 : Int32))])) t
        refine XS.ifNo X88.here hx rfl (hb hby at_415) rfl ((if0 _ _).trans (feq (by decide : ¬ ((1 : Int32) = (0 : Int32)))).1) ?_
        refine XS.iconst X88.here hx rfl (hb hby at_418) ?_
        refine XS.goto X88.here hx rfl (pc0 := 419) (pc' := 423) rfl (hb hby at_419) (by decide) (by decide) ?_
        exact k
      obtain ⟨fs, hr, hrun, hended, hW, hsame⟩ := X88.leave (v := some (.int (1 : Int32))) (fun h => by rw [Bd.returns] at h; cases h)
      refine ⟨_, _, ?_, hrun, hended, _, _, rfl, ?_, ⟨_, rfl⟩, hW, hsame.mono (by decide) (by decide)⟩
      · exact retOut X88 hx (t := .boolean) Bd.returns rfl (Or.inl ⟨rfl, by simp, _, rfl⟩) (hb hby at_423) hr
      · show Q0 Z p0 p1 p2 p3 p4 h0 n0 _ T88.heap _
        rw [e88]
        exact ⟨rfl, N88⟩
    by_cases hc94 : (own_fits (0 : Int32) (1 : Int32) d0 d1 d2 p4) = (0 : Int32)
    · skip
      refine own_go (B := T73.setTop (mkF m 239 #[.val (.int p0), .val (.int p1), .val (.int p2), .val (.int p3), .val (.int p4), .val (.int (1 : Int32)), .val (.int d0), .val (.int d1), .val (.int d2), .val (.ref b52), .val (.ref b67), .val (.int (own_am [d0] [(own_cnt p4 (0 : Int32)), (own_cnt p4 (1 : Int32)), (own_cnt p4 (2 : Int32)), (own_cnt p4 (3 : Int32)), (own_cnt p4 (4 : Int32)), (own_cnt p4 (5 : Int32)), (own_cnt p4 (6 : Int32))])), .unset, .unset, .unset] [(.int (0 : Int32))])) (fun t k => ?_) ?_
      · show Steps p.tables e below (T73.setTop (mkF m 197 #[.val (.int p0), .val (.int p1), .val (.int p2), .val (.int p3), .val (.int p4), .val (.int (1 : Int32)), .val (.int d0), .val (.int d1), .val (.int d2), .val (.ref b52), .val (.ref b67), .val (.int (own_am [d0] [(own_cnt p4 (0 : Int32)), (own_cnt p4 (1 : Int32)), (own_cnt p4 (2 : Int32)), (own_cnt p4 (3 : Int32)), (own_cnt p4 (4 : Int32)), (own_cnt p4 (5 : Int32)), (own_cnt p4 (6 : Int32))])), .unset, .unset, .unset] [(.int (own_fits (0 : Int32) (1 : Int32) d0 d1 d2 p4))])) t
        refine XS.ifYes X73.here hx rfl (pc0 := 197) (pc' := 238) rfl (hb hby at_197) rfl ((if0 _ _).trans (teq hc94).1) (by decide) (by decide) ?_
        refine XS.iconst X73.here hx rfl (hb hby at_238) ?_
        exact k
      exact joinJ _ _ X73 e73 N73 _ (by rw [own_law1 d0 d1 d2]; simp only [if_pos hc94])
    · skip
      refine own_go (B := T73.setTop (mkF m 211 #[.val (.int p0), .val (.int p1), .val (.int p2), .val (.int p3), .val (.int p4), .val (.int (1 : Int32)), .val (.int d0), .val (.int d1), .val (.int d2), .val (.ref b52), .val (.ref b67), .val (.int (own_am [d0] [(own_cnt p4 (0 : Int32)), (own_cnt p4 (1 : Int32)), (own_cnt p4 (2 : Int32)), (own_cnt p4 (3 : Int32)), (own_cnt p4 (4 : Int32)), (own_cnt p4 (5 : Int32)), (own_cnt p4 (6 : Int32))])), .unset, .unset, .unset] [(.int p4), (.int d2), (.int d1), (.int d0), (.int (1 : Int32)), (.int (1 : Int32))])) (fun t k => ?_) ?_
      · show Steps p.tables e below (T73.setTop (mkF m 197 #[.val (.int p0), .val (.int p1), .val (.int p2), .val (.int p3), .val (.int p4), .val (.int (1 : Int32)), .val (.int d0), .val (.int d1), .val (.int d2), .val (.ref b52), .val (.ref b67), .val (.int (own_am [d0] [(own_cnt p4 (0 : Int32)), (own_cnt p4 (1 : Int32)), (own_cnt p4 (2 : Int32)), (own_cnt p4 (3 : Int32)), (own_cnt p4 (4 : Int32)), (own_cnt p4 (5 : Int32)), (own_cnt p4 (6 : Int32))])), .unset, .unset, .unset] [(.int (own_fits (0 : Int32) (1 : Int32) d0 d1 d2 p4))])) t
        refine XS.ifNo X73.here hx rfl (hb hby at_197) rfl ((if0 _ _).trans (feq hc94).1) ?_
        refine XS.iconst X73.here hx rfl (hb hby at_200) ?_
        refine XS.iload X73.here hx rfl (hb hby at_201) rfl ?_
        refine XS.iload X73.here hx rfl (hb hby at_203) rfl ?_
        show Steps p.tables e below (T73.setTop (mkF m 205 #[.val (.int p0), .val (.int p1), .val (.int p2), .val (.int p3), .val (.int p4), .val (.int (1 : Int32)), .val (.int d0), .val (.int d1), .val (.int d2), .val (.ref b52), .val (.ref b67), .val (.int (own_am [d0] [(own_cnt p4 (0 : Int32)), (own_cnt p4 (1 : Int32)), (own_cnt p4 (2 : Int32)), (own_cnt p4 (3 : Int32)), (own_cnt p4 (4 : Int32)), (own_cnt p4 (5 : Int32)), (own_cnt p4 (6 : Int32))])), .unset, .unset, .unset] [(.int d0), (.int (1 : Int32)), (.int (1 : Int32))])) t
        refine XS.iload X73.here hx rfl (hb hby at_205) rfl ?_
        refine XS.iload X73.here hx rfl (hb hby at_207) rfl ?_
        refine XS.iload X73.here hx rfl (hb hby at_209) rfl ?_
        exact k
      obtain ⟨_, _, ⟨T95, L95, k95, n95⟩, -, X95, ⟨Lc95, hQ95, l95, y95, z95⟩, st95⟩ := Jvm.LawKit.callS X73 hx (y := (⟨"com/example/rollhaus/rollhaus/dice/FacesAmongPinLaw", "fits", "(IIIIII)Z"⟩ : MethodName)) hown (mvT hZ (hw _ (List.mem_of_getElem? (i := 18) rfl))) (mvT hZ (hw _ (List.mem_of_getElem? (i := 19) rfl))) (mvT hZ (hw _ (List.mem_of_getElem? (i := 3) rfl))) (mvT hZ (hw _ (List.mem_of_getElem? (i := 20) rfl))) (by decide) (backOf (W := 0) (rm2 l Z a0 hw [] (1 : Int32) (1 : Int32) d0 d1 d2 p4  T70.heap n0 (Nat.le_trans Z0 K70.1) ) hZ (hw _ (List.mem_of_getElem? (i := 20) rfl)) (hw _ (List.mem_of_getElem? (i := 3) rfl)) (by decide) (by decide)) (g := (mkF m 211 #[.val (.int p0), .val (.int p1), .val (.int p2), .val (.int p3), .val (.int p4), .val (.int (1 : Int32)), .val (.int d0), .val (.int d1), .val (.int d2), .val (.ref b52), .val (.ref b67), .val (.int (own_am [d0] [(own_cnt p4 (0 : Int32)), (own_cnt p4 (1 : Int32)), (own_cnt p4 (2 : Int32)), (own_cnt p4 (3 : Int32)), (own_cnt p4 (4 : Int32)), (own_cnt p4 (5 : Int32)), (own_cnt p4 (6 : Int32))])), .unset, .unset, .unset] [(.int p4), (.int d2), (.int d1), (.int d0), (.int (1 : Int32)), (.int (1 : Int32))])) rfl (by rw [hml]; rfl) (argsL := [(.int (1 : Int32)), (.int (1 : Int32)), (.int d0), (.int d1), (.int d2), (.int p4)]) (rest := []) (lenOf pd0_2 rfl) rfl (by show 2 * 0 + _ ≤ _; exact Nat.le_of_eq rfl) (hb hby at_211) (fun _ _ => ⟨rfl, e73, (by decide : 3 + 0 ≤ _), (by decide : 15 + 0 ≤ _)⟩)
      dsimp only [Pt.U, Pt.locs, Pt.cells, Pt.slots] at X95 l95 y95 z95 st95 hQ95
      subst y95 z95
      have X95 : Stand p l e room_1 s m #[(.int p0), (.int p1), (.int p2), (.int p3), (.int p4)] below meth c T95 _ 3 15 := X95
      obtain ⟨rfl, N95q, e95⟩ := hQ95
      have N95 : Fr n0 L95 := by rw [l95]; exact Fr.app N73 N95q
      refine own_go (st95) ?_
      show own_Fin p.tables e below (T95.setTop (mkF m 214 #[.val (.int p0), .val (.int p1), .val (.int p2), .val (.int p3), .val (.int p4), .val (.int (1 : Int32)), .val (.int d0), .val (.int d1), .val (.int d2), .val (.ref b52), .val (.ref b67), .val (.int (own_am [d0] [(own_cnt p4 (0 : Int32)), (own_cnt p4 (1 : Int32)), (own_cnt p4 (2 : Int32)), (own_cnt p4 (3 : Int32)), (own_cnt p4 (4 : Int32)), (own_cnt p4 (5 : Int32)), (own_cnt p4 (6 : Int32))])), .unset, .unset, .unset] [(.int (own_fits (1 : Int32) (1 : Int32) d0 d1 d2 p4))])) _
      by_cases hc96 : (own_fits (1 : Int32) (1 : Int32) d0 d1 d2 p4) = (0 : Int32)
      · skip
        refine own_go (B := T95.setTop (mkF m 239 #[.val (.int p0), .val (.int p1), .val (.int p2), .val (.int p3), .val (.int p4), .val (.int (1 : Int32)), .val (.int d0), .val (.int d1), .val (.int d2), .val (.ref b52), .val (.ref b67), .val (.int (own_am [d0] [(own_cnt p4 (0 : Int32)), (own_cnt p4 (1 : Int32)), (own_cnt p4 (2 : Int32)), (own_cnt p4 (3 : Int32)), (own_cnt p4 (4 : Int32)), (own_cnt p4 (5 : Int32)), (own_cnt p4 (6 : Int32))])), .unset, .unset, .unset] [(.int (0 : Int32))])) (fun t k => ?_) ?_
        · show Steps p.tables e below (T95.setTop (mkF m 214 #[.val (.int p0), .val (.int p1), .val (.int p2), .val (.int p3), .val (.int p4), .val (.int (1 : Int32)), .val (.int d0), .val (.int d1), .val (.int d2), .val (.ref b52), .val (.ref b67), .val (.int (own_am [d0] [(own_cnt p4 (0 : Int32)), (own_cnt p4 (1 : Int32)), (own_cnt p4 (2 : Int32)), (own_cnt p4 (3 : Int32)), (own_cnt p4 (4 : Int32)), (own_cnt p4 (5 : Int32)), (own_cnt p4 (6 : Int32))])), .unset, .unset, .unset] [(.int (own_fits (1 : Int32) (1 : Int32) d0 d1 d2 p4))])) t
          refine XS.ifYes X95.here hx rfl (pc0 := 214) (pc' := 238) rfl (hb hby at_214) rfl ((if0 _ _).trans (teq hc96).1) (by decide) (by decide) ?_
          refine XS.iconst X95.here hx rfl (hb hby at_238) ?_
          exact k
        exact joinJ _ _ X95 e95 N95 _ (by rw [own_law1 d0 d1 d2]; simp only [if_neg hc94, if_pos hc96])
      · skip
        refine own_go (B := T95.setTop (mkF m 228 #[.val (.int p0), .val (.int p1), .val (.int p2), .val (.int p3), .val (.int p4), .val (.int (1 : Int32)), .val (.int d0), .val (.int d1), .val (.int d2), .val (.ref b52), .val (.ref b67), .val (.int (own_am [d0] [(own_cnt p4 (0 : Int32)), (own_cnt p4 (1 : Int32)), (own_cnt p4 (2 : Int32)), (own_cnt p4 (3 : Int32)), (own_cnt p4 (4 : Int32)), (own_cnt p4 (5 : Int32)), (own_cnt p4 (6 : Int32))])), .unset, .unset, .unset] [(.int p4), (.int d2), (.int d1), (.int d0), (.int (1 : Int32)), (.int (2 : Int32))])) (fun t k => ?_) ?_
        · show Steps p.tables e below (T95.setTop (mkF m 214 #[.val (.int p0), .val (.int p1), .val (.int p2), .val (.int p3), .val (.int p4), .val (.int (1 : Int32)), .val (.int d0), .val (.int d1), .val (.int d2), .val (.ref b52), .val (.ref b67), .val (.int (own_am [d0] [(own_cnt p4 (0 : Int32)), (own_cnt p4 (1 : Int32)), (own_cnt p4 (2 : Int32)), (own_cnt p4 (3 : Int32)), (own_cnt p4 (4 : Int32)), (own_cnt p4 (5 : Int32)), (own_cnt p4 (6 : Int32))])), .unset, .unset, .unset] [(.int (own_fits (1 : Int32) (1 : Int32) d0 d1 d2 p4))])) t
          refine XS.ifNo X95.here hx rfl (hb hby at_214) rfl ((if0 _ _).trans (feq hc96).1) ?_
          refine XS.iconst X95.here hx rfl (hb hby at_217) ?_
          refine XS.iload X95.here hx rfl (hb hby at_218) rfl ?_
          refine XS.iload X95.here hx rfl (hb hby at_220) rfl ?_
          show Steps p.tables e below (T95.setTop (mkF m 222 #[.val (.int p0), .val (.int p1), .val (.int p2), .val (.int p3), .val (.int p4), .val (.int (1 : Int32)), .val (.int d0), .val (.int d1), .val (.int d2), .val (.ref b52), .val (.ref b67), .val (.int (own_am [d0] [(own_cnt p4 (0 : Int32)), (own_cnt p4 (1 : Int32)), (own_cnt p4 (2 : Int32)), (own_cnt p4 (3 : Int32)), (own_cnt p4 (4 : Int32)), (own_cnt p4 (5 : Int32)), (own_cnt p4 (6 : Int32))])), .unset, .unset, .unset] [(.int d0), (.int (1 : Int32)), (.int (2 : Int32))])) t
          refine XS.iload X95.here hx rfl (hb hby at_222) rfl ?_
          refine XS.iload X95.here hx rfl (hb hby at_224) rfl ?_
          refine XS.iload X95.here hx rfl (hb hby at_226) rfl ?_
          exact k
        obtain ⟨_, _, ⟨T97, L97, k97, n97⟩, -, X97, ⟨Lc97, hQ97, l97, y97, z97⟩, st97⟩ := Jvm.LawKit.callS X95 hx (y := (⟨"com/example/rollhaus/rollhaus/dice/FacesAmongPinLaw", "fits", "(IIIIII)Z"⟩ : MethodName)) hown (mvT hZ (hw _ (List.mem_of_getElem? (i := 18) rfl))) (mvT hZ (hw _ (List.mem_of_getElem? (i := 19) rfl))) (mvT hZ (hw _ (List.mem_of_getElem? (i := 3) rfl))) (mvT hZ (hw _ (List.mem_of_getElem? (i := 20) rfl))) (by decide) (backOf (W := 0) (rm2 l Z a0 hw [] (2 : Int32) (1 : Int32) d0 d1 d2 p4  T70.heap n0 (Nat.le_trans Z0 K70.1) ) hZ (hw _ (List.mem_of_getElem? (i := 20) rfl)) (hw _ (List.mem_of_getElem? (i := 3) rfl)) (by decide) (by decide)) (g := (mkF m 228 #[.val (.int p0), .val (.int p1), .val (.int p2), .val (.int p3), .val (.int p4), .val (.int (1 : Int32)), .val (.int d0), .val (.int d1), .val (.int d2), .val (.ref b52), .val (.ref b67), .val (.int (own_am [d0] [(own_cnt p4 (0 : Int32)), (own_cnt p4 (1 : Int32)), (own_cnt p4 (2 : Int32)), (own_cnt p4 (3 : Int32)), (own_cnt p4 (4 : Int32)), (own_cnt p4 (5 : Int32)), (own_cnt p4 (6 : Int32))])), .unset, .unset, .unset] [(.int p4), (.int d2), (.int d1), (.int d0), (.int (1 : Int32)), (.int (2 : Int32))])) rfl (by rw [hml]; rfl) (argsL := [(.int (2 : Int32)), (.int (1 : Int32)), (.int d0), (.int d1), (.int d2), (.int p4)]) (rest := []) (lenOf pd0_2 rfl) rfl (by show 2 * 0 + _ ≤ _; exact Nat.le_of_eq rfl) (hb hby at_228) (fun _ _ => ⟨rfl, e95, (by decide : 3 + 0 ≤ _), (by decide : 15 + 0 ≤ _)⟩)
        dsimp only [Pt.U, Pt.locs, Pt.cells, Pt.slots] at X97 l97 y97 z97 st97 hQ97
        subst y97 z97
        have X97 : Stand p l e room_1 s m #[(.int p0), (.int p1), (.int p2), (.int p3), (.int p4)] below meth c T97 _ 3 15 := X97
        obtain ⟨rfl, N97q, e97⟩ := hQ97
        have N97 : Fr n0 L97 := by rw [l97]; exact Fr.app N95 N97q
        refine own_go (st97) ?_
        show own_Fin p.tables e below (T97.setTop (mkF m 231 #[.val (.int p0), .val (.int p1), .val (.int p2), .val (.int p3), .val (.int p4), .val (.int (1 : Int32)), .val (.int d0), .val (.int d1), .val (.int d2), .val (.ref b52), .val (.ref b67), .val (.int (own_am [d0] [(own_cnt p4 (0 : Int32)), (own_cnt p4 (1 : Int32)), (own_cnt p4 (2 : Int32)), (own_cnt p4 (3 : Int32)), (own_cnt p4 (4 : Int32)), (own_cnt p4 (5 : Int32)), (own_cnt p4 (6 : Int32))])), .unset, .unset, .unset] [(.int (own_fits (2 : Int32) (1 : Int32) d0 d1 d2 p4))])) _
        by_cases hc98 : (own_fits (2 : Int32) (1 : Int32) d0 d1 d2 p4) = (0 : Int32)
        · skip
          refine own_go (B := T97.setTop (mkF m 239 #[.val (.int p0), .val (.int p1), .val (.int p2), .val (.int p3), .val (.int p4), .val (.int (1 : Int32)), .val (.int d0), .val (.int d1), .val (.int d2), .val (.ref b52), .val (.ref b67), .val (.int (own_am [d0] [(own_cnt p4 (0 : Int32)), (own_cnt p4 (1 : Int32)), (own_cnt p4 (2 : Int32)), (own_cnt p4 (3 : Int32)), (own_cnt p4 (4 : Int32)), (own_cnt p4 (5 : Int32)), (own_cnt p4 (6 : Int32))])), .unset, .unset, .unset] [(.int (0 : Int32))])) (fun t k => ?_) ?_
          · show Steps p.tables e below (T97.setTop (mkF m 231 #[.val (.int p0), .val (.int p1), .val (.int p2), .val (.int p3), .val (.int p4), .val (.int (1 : Int32)), .val (.int d0), .val (.int d1), .val (.int d2), .val (.ref b52), .val (.ref b67), .val (.int (own_am [d0] [(own_cnt p4 (0 : Int32)), (own_cnt p4 (1 : Int32)), (own_cnt p4 (2 : Int32)), (own_cnt p4 (3 : Int32)), (own_cnt p4 (4 : Int32)), (own_cnt p4 (5 : Int32)), (own_cnt p4 (6 : Int32))])), .unset, .unset, .unset] [(.int (own_fits (2 : Int32) (1 : Int32) d0 d1 d2 p4))])) t
            refine XS.ifYes X97.here hx rfl (pc0 := 231) (pc' := 238) rfl (hb hby at_231) rfl ((if0 _ _).trans (teq hc98).1) (by decide) (by decide) ?_
            refine XS.iconst X97.here hx rfl (hb hby at_238) ?_
            exact k
          exact joinJ _ _ X97 e97 N97 _ (by rw [own_law1 d0 d1 d2]; simp only [if_neg hc94, if_neg hc96, if_pos hc98])
        · skip
          refine own_go (B := T97.setTop (mkF m 239 #[.val (.int p0), .val (.int p1), .val (.int p2), .val (.int p3), .val (.int p4), .val (.int (1 : Int32)), .val (.int d0), .val (.int d1), .val (.int d2), .val (.ref b52), .val (.ref b67), .val (.int (own_am [d0] [(own_cnt p4 (0 : Int32)), (own_cnt p4 (1 : Int32)), (own_cnt p4 (2 : Int32)), (own_cnt p4 (3 : Int32)), (own_cnt p4 (4 : Int32)), (own_cnt p4 (5 : Int32)), (own_cnt p4 (6 : Int32))])), .unset, .unset, .unset] [(.int (1 : Int32))])) (fun t k => ?_) ?_
          · show Steps p.tables e below (T97.setTop (mkF m 231 #[.val (.int p0), .val (.int p1), .val (.int p2), .val (.int p3), .val (.int p4), .val (.int (1 : Int32)), .val (.int d0), .val (.int d1), .val (.int d2), .val (.ref b52), .val (.ref b67), .val (.int (own_am [d0] [(own_cnt p4 (0 : Int32)), (own_cnt p4 (1 : Int32)), (own_cnt p4 (2 : Int32)), (own_cnt p4 (3 : Int32)), (own_cnt p4 (4 : Int32)), (own_cnt p4 (5 : Int32)), (own_cnt p4 (6 : Int32))])), .unset, .unset, .unset] [(.int (own_fits (2 : Int32) (1 : Int32) d0 d1 d2 p4))])) t
            refine XS.ifNo X97.here hx rfl (hb hby at_231) rfl ((if0 _ _).trans (feq hc98).1) ?_
            refine XS.iconst X97.here hx rfl (hb hby at_234) ?_
            refine XS.goto X97.here hx rfl (pc0 := 235) (pc' := 239) rfl (hb hby at_235) (by decide) (by decide) ?_
            exact k
          exact joinJ _ _ X97 e97 N97 _ (by rw [own_law1 d0 d1 d2]; simp only [if_neg hc94, if_neg hc96, if_neg hc98])
  · skip
    refine own_go (B := s₁.setTop (mkF m 3 #[.val (.int p0), .val (.int p1), .val (.int p2), .val (.int p3), .val (.int p4), .unset, .unset, .unset, .unset, .unset, .unset, .unset, .unset, .unset, .unset] [(.int (2 : Int32))])) (fun t k => (congrArg (fun z => Steps p.tables e below (s₁.setTop (mkF m 3 #[.val (.int p0), .val (.int p1), .val (.int p2), .val (.int p3), .val (.int p4), .unset, .unset, .unset, .unset, .unset, .unset, .unset, .unset, .unset, .unset] [(.int z)])) t) (hn)).mpr k) ?_
    refine own_go (B := s₁.setTop (mkF m 8 #[.val (.int p0), .val (.int p1), .val (.int p2), .val (.int p3), .val (.int p4), .val (.int (2 : Int32)), .unset, .unset, .unset, .unset, .unset, .unset, .unset, .unset, .unset] [(.int (p0 &&& (4 : Int32)))])) (fun t k => ?_) ?_
    · show Steps p.tables e below (s₁.setTop (mkF m 3 #[.val (.int p0), .val (.int p1), .val (.int p2), .val (.int p3), .val (.int p4), .unset, .unset, .unset, .unset, .unset, .unset, .unset, .unset, .unset, .unset] [(.int (2 : Int32))])) t
      refine XS.istore X0.here hx rfl (hb hby at_3) rfl (l' := #[.val (.int p0), .val (.int p1), .val (.int p2), .val (.int p3), .val (.int p4), .val (.int (2 : Int32)), .unset, .unset, .unset, .unset, .unset, .unset, .unset, .unset, .unset]) rfl ?_
      refine XS.iloadN X0.here hx rfl (hb hby at_5) rfl ?_
      refine XS.iconst X0.here hx rfl (hb hby at_6) ?_
      refine XS.iand X0.here hx rfl (hb hby at_7) rfl ?_
      exact k
    refine own_go (B := s₁.setTop (mkF m 19 #[.val (.int p0), .val (.int p1), .val (.int p2), .val (.int p3), .val (.int p4), .val (.int (2 : Int32)), .unset, .unset, .unset, .unset, .unset, .unset, .unset, .unset, .unset] [(.int (if (p0 &&& (4 : Int32)) = (0 : Int32) then (p1 &&& (7 : Int32)) else p1))])) (fun t k => ?_) ?_
    · skip
      show Steps p.tables e below (s₁.setTop (mkF m 8 #[.val (.int p0), .val (.int p1), .val (.int p2), .val (.int p3), .val (.int p4), .val (.int (2 : Int32)), .unset, .unset, .unset, .unset, .unset, .unset, .unset, .unset, .unset] [(.int (p0 &&& (4 : Int32)))])) t
      by_cases hd99 : (p0 &&& (4 : Int32)) = (0 : Int32)
      · refine XS.ifYes X0.here hx rfl (pc0 := 8) (pc' := 15) rfl (hb hby at_8) rfl ((if0 _ _).trans (teq hd99).1) (by decide) (by decide) ?_
        show Steps p.tables e below (s₁.setTop (mkF m 15 #[.val (.int p0), .val (.int p1), .val (.int p2), .val (.int p3), .val (.int p4), .val (.int (2 : Int32)), .unset, .unset, .unset, .unset, .unset, .unset, .unset, .unset, .unset] [])) t
        refine XS.iloadN X0.here hx rfl (hb hby at_15) rfl ?_
        show Steps p.tables e below (s₁.setTop (mkF m 16 #[.val (.int p0), .val (.int p1), .val (.int p2), .val (.int p3), .val (.int p4), .val (.int (2 : Int32)), .unset, .unset, .unset, .unset, .unset, .unset, .unset, .unset, .unset] [(.int p1)])) t
        refine XS.bipush X0.here hx rfl (hb hby at_16) ?_
        show Steps p.tables e below (s₁.setTop (mkF m 18 #[.val (.int p0), .val (.int p1), .val (.int p2), .val (.int p3), .val (.int p4), .val (.int (2 : Int32)), .unset, .unset, .unset, .unset, .unset, .unset, .unset, .unset, .unset] [(.int (7 : Int32)), (.int p1)])) t
        refine XS.iand X0.here hx rfl (hb hby at_18) rfl ?_
        show Steps p.tables e below (s₁.setTop (mkF m 19 #[.val (.int p0), .val (.int p1), .val (.int p2), .val (.int p3), .val (.int p4), .val (.int (2 : Int32)), .unset, .unset, .unset, .unset, .unset, .unset, .unset, .unset, .unset] [(.int (p1 &&& (7 : Int32)))])) t
        exact (congrArg (fun z => Steps p.tables e below (s₁.setTop (mkF m 19 #[.val (.int p0), .val (.int p1), .val (.int p2), .val (.int p3), .val (.int p4), .val (.int (2 : Int32)), .unset, .unset, .unset, .unset, .unset, .unset, .unset, .unset, .unset] [(.int z)])) t) (if_pos hd99)).mp k
      · refine XS.ifNo X0.here hx rfl (hb hby at_8) rfl ((if0 _ _).trans (feq hd99).1) ?_
        show Steps p.tables e below (s₁.setTop (mkF m 11 #[.val (.int p0), .val (.int p1), .val (.int p2), .val (.int p3), .val (.int p4), .val (.int (2 : Int32)), .unset, .unset, .unset, .unset, .unset, .unset, .unset, .unset, .unset] [])) t
        refine XS.iloadN X0.here hx rfl (hb hby at_11) rfl ?_
        show Steps p.tables e below (s₁.setTop (mkF m 12 #[.val (.int p0), .val (.int p1), .val (.int p2), .val (.int p3), .val (.int p4), .val (.int (2 : Int32)), .unset, .unset, .unset, .unset, .unset, .unset, .unset, .unset, .unset] [(.int p1)])) t
        refine XS.goto X0.here hx rfl (pc0 := 12) (pc' := 19) rfl (hb hby at_12) (by decide) (by decide) ?_
        show Steps p.tables e below (s₁.setTop (mkF m 19 #[.val (.int p0), .val (.int p1), .val (.int p2), .val (.int p3), .val (.int p4), .val (.int (2 : Int32)), .unset, .unset, .unset, .unset, .unset, .unset, .unset, .unset, .unset] [(.int p1)])) t
        exact (congrArg (fun z => Steps p.tables e below (s₁.setTop (mkF m 19 #[.val (.int p0), .val (.int p1), .val (.int p2), .val (.int p3), .val (.int p4), .val (.int (2 : Int32)), .unset, .unset, .unset, .unset, .unset, .unset, .unset, .unset, .unset] [(.int z)])) t) (if_neg hd99)).mp k
    obtain ⟨d0, hd0⟩ : ∃ z, z = (if (p0 &&& (4 : Int32)) = (0 : Int32) then (p1 &&& (7 : Int32)) else p1) := ⟨_, rfl⟩
    refine own_go (B := s₁.setTop (mkF m 19 #[.val (.int p0), .val (.int p1), .val (.int p2), .val (.int p3), .val (.int p4), .val (.int (2 : Int32)), .unset, .unset, .unset, .unset, .unset, .unset, .unset, .unset, .unset] [(.int d0)])) (fun t k => (congrArg (fun z => Steps p.tables e below (s₁.setTop (mkF m 19 #[.val (.int p0), .val (.int p1), .val (.int p2), .val (.int p3), .val (.int p4), .val (.int (2 : Int32)), .unset, .unset, .unset, .unset, .unset, .unset, .unset, .unset, .unset] [(.int z)])) t) (hd0.symm)).mpr k) ?_
    refine own_go (B := s₁.setTop (mkF m 25 #[.val (.int p0), .val (.int p1), .val (.int p2), .val (.int p3), .val (.int p4), .val (.int (2 : Int32)), .val (.int d0), .unset, .unset, .unset, .unset, .unset, .unset, .unset, .unset] [(.int (p0 &&& (8 : Int32)))])) (fun t k => ?_) ?_
    · show Steps p.tables e below (s₁.setTop (mkF m 19 #[.val (.int p0), .val (.int p1), .val (.int p2), .val (.int p3), .val (.int p4), .val (.int (2 : Int32)), .unset, .unset, .unset, .unset, .unset, .unset, .unset, .unset, .unset] [(.int d0)])) t
      refine XS.istore X0.here hx rfl (hb hby at_19) rfl (l' := #[.val (.int p0), .val (.int p1), .val (.int p2), .val (.int p3), .val (.int p4), .val (.int (2 : Int32)), .val (.int d0), .unset, .unset, .unset, .unset, .unset, .unset, .unset, .unset]) rfl ?_
      refine XS.iloadN X0.here hx rfl (hb hby at_21) rfl ?_
      refine XS.bipush X0.here hx rfl (hb hby at_22) ?_
      refine XS.iand X0.here hx rfl (hb hby at_24) rfl ?_
      exact k
    refine own_go (B := s₁.setTop (mkF m 36 #[.val (.int p0), .val (.int p1), .val (.int p2), .val (.int p3), .val (.int p4), .val (.int (2 : Int32)), .val (.int d0), .unset, .unset, .unset, .unset, .unset, .unset, .unset, .unset] [(.int (if (p0 &&& (8 : Int32)) = (0 : Int32) then (p2 &&& (7 : Int32)) else p2))])) (fun t k => ?_) ?_
    · skip
      show Steps p.tables e below (s₁.setTop (mkF m 25 #[.val (.int p0), .val (.int p1), .val (.int p2), .val (.int p3), .val (.int p4), .val (.int (2 : Int32)), .val (.int d0), .unset, .unset, .unset, .unset, .unset, .unset, .unset, .unset] [(.int (p0 &&& (8 : Int32)))])) t
      by_cases hd100 : (p0 &&& (8 : Int32)) = (0 : Int32)
      · refine XS.ifYes X0.here hx rfl (pc0 := 25) (pc' := 32) rfl (hb hby at_25) rfl ((if0 _ _).trans (teq hd100).1) (by decide) (by decide) ?_
        show Steps p.tables e below (s₁.setTop (mkF m 32 #[.val (.int p0), .val (.int p1), .val (.int p2), .val (.int p3), .val (.int p4), .val (.int (2 : Int32)), .val (.int d0), .unset, .unset, .unset, .unset, .unset, .unset, .unset, .unset] [])) t
        refine XS.iloadN X0.here hx rfl (hb hby at_32) rfl ?_
        show Steps p.tables e below (s₁.setTop (mkF m 33 #[.val (.int p0), .val (.int p1), .val (.int p2), .val (.int p3), .val (.int p4), .val (.int (2 : Int32)), .val (.int d0), .unset, .unset, .unset, .unset, .unset, .unset, .unset, .unset] [(.int p2)])) t
        refine XS.bipush X0.here hx rfl (hb hby at_33) ?_
        show Steps p.tables e below (s₁.setTop (mkF m 35 #[.val (.int p0), .val (.int p1), .val (.int p2), .val (.int p3), .val (.int p4), .val (.int (2 : Int32)), .val (.int d0), .unset, .unset, .unset, .unset, .unset, .unset, .unset, .unset] [(.int (7 : Int32)), (.int p2)])) t
        refine XS.iand X0.here hx rfl (hb hby at_35) rfl ?_
        show Steps p.tables e below (s₁.setTop (mkF m 36 #[.val (.int p0), .val (.int p1), .val (.int p2), .val (.int p3), .val (.int p4), .val (.int (2 : Int32)), .val (.int d0), .unset, .unset, .unset, .unset, .unset, .unset, .unset, .unset] [(.int (p2 &&& (7 : Int32)))])) t
        exact (congrArg (fun z => Steps p.tables e below (s₁.setTop (mkF m 36 #[.val (.int p0), .val (.int p1), .val (.int p2), .val (.int p3), .val (.int p4), .val (.int (2 : Int32)), .val (.int d0), .unset, .unset, .unset, .unset, .unset, .unset, .unset, .unset] [(.int z)])) t) (if_pos hd100)).mp k
      · refine XS.ifNo X0.here hx rfl (hb hby at_25) rfl ((if0 _ _).trans (feq hd100).1) ?_
        show Steps p.tables e below (s₁.setTop (mkF m 28 #[.val (.int p0), .val (.int p1), .val (.int p2), .val (.int p3), .val (.int p4), .val (.int (2 : Int32)), .val (.int d0), .unset, .unset, .unset, .unset, .unset, .unset, .unset, .unset] [])) t
        refine XS.iloadN X0.here hx rfl (hb hby at_28) rfl ?_
        show Steps p.tables e below (s₁.setTop (mkF m 29 #[.val (.int p0), .val (.int p1), .val (.int p2), .val (.int p3), .val (.int p4), .val (.int (2 : Int32)), .val (.int d0), .unset, .unset, .unset, .unset, .unset, .unset, .unset, .unset] [(.int p2)])) t
        refine XS.goto X0.here hx rfl (pc0 := 29) (pc' := 36) rfl (hb hby at_29) (by decide) (by decide) ?_
        show Steps p.tables e below (s₁.setTop (mkF m 36 #[.val (.int p0), .val (.int p1), .val (.int p2), .val (.int p3), .val (.int p4), .val (.int (2 : Int32)), .val (.int d0), .unset, .unset, .unset, .unset, .unset, .unset, .unset, .unset] [(.int p2)])) t
        exact (congrArg (fun z => Steps p.tables e below (s₁.setTop (mkF m 36 #[.val (.int p0), .val (.int p1), .val (.int p2), .val (.int p3), .val (.int p4), .val (.int (2 : Int32)), .val (.int d0), .unset, .unset, .unset, .unset, .unset, .unset, .unset, .unset] [(.int z)])) t) (if_neg hd100)).mp k
    obtain ⟨d1, hd1⟩ : ∃ z, z = (if (p0 &&& (8 : Int32)) = (0 : Int32) then (p2 &&& (7 : Int32)) else p2) := ⟨_, rfl⟩
    refine own_go (B := s₁.setTop (mkF m 36 #[.val (.int p0), .val (.int p1), .val (.int p2), .val (.int p3), .val (.int p4), .val (.int (2 : Int32)), .val (.int d0), .unset, .unset, .unset, .unset, .unset, .unset, .unset, .unset] [(.int d1)])) (fun t k => (congrArg (fun z => Steps p.tables e below (s₁.setTop (mkF m 36 #[.val (.int p0), .val (.int p1), .val (.int p2), .val (.int p3), .val (.int p4), .val (.int (2 : Int32)), .val (.int d0), .unset, .unset, .unset, .unset, .unset, .unset, .unset, .unset] [(.int z)])) t) (hd1.symm)).mpr k) ?_
    refine own_go (B := s₁.setTop (mkF m 42 #[.val (.int p0), .val (.int p1), .val (.int p2), .val (.int p3), .val (.int p4), .val (.int (2 : Int32)), .val (.int d0), .val (.int d1), .unset, .unset, .unset, .unset, .unset, .unset, .unset] [(.int (p0 &&& (16 : Int32)))])) (fun t k => ?_) ?_
    · show Steps p.tables e below (s₁.setTop (mkF m 36 #[.val (.int p0), .val (.int p1), .val (.int p2), .val (.int p3), .val (.int p4), .val (.int (2 : Int32)), .val (.int d0), .unset, .unset, .unset, .unset, .unset, .unset, .unset, .unset] [(.int d1)])) t
      refine XS.istore X0.here hx rfl (hb hby at_36) rfl (l' := #[.val (.int p0), .val (.int p1), .val (.int p2), .val (.int p3), .val (.int p4), .val (.int (2 : Int32)), .val (.int d0), .val (.int d1), .unset, .unset, .unset, .unset, .unset, .unset, .unset]) rfl ?_
      refine XS.iloadN X0.here hx rfl (hb hby at_38) rfl ?_
      refine XS.bipush X0.here hx rfl (hb hby at_39) ?_
      refine XS.iand X0.here hx rfl (hb hby at_41) rfl ?_
      exact k
    refine own_go (B := s₁.setTop (mkF m 53 #[.val (.int p0), .val (.int p1), .val (.int p2), .val (.int p3), .val (.int p4), .val (.int (2 : Int32)), .val (.int d0), .val (.int d1), .unset, .unset, .unset, .unset, .unset, .unset, .unset] [(.int (if (p0 &&& (16 : Int32)) = (0 : Int32) then (p3 &&& (7 : Int32)) else p3))])) (fun t k => ?_) ?_
    · skip
      show Steps p.tables e below (s₁.setTop (mkF m 42 #[.val (.int p0), .val (.int p1), .val (.int p2), .val (.int p3), .val (.int p4), .val (.int (2 : Int32)), .val (.int d0), .val (.int d1), .unset, .unset, .unset, .unset, .unset, .unset, .unset] [(.int (p0 &&& (16 : Int32)))])) t
      by_cases hd101 : (p0 &&& (16 : Int32)) = (0 : Int32)
      · refine XS.ifYes X0.here hx rfl (pc0 := 42) (pc' := 49) rfl (hb hby at_42) rfl ((if0 _ _).trans (teq hd101).1) (by decide) (by decide) ?_
        show Steps p.tables e below (s₁.setTop (mkF m 49 #[.val (.int p0), .val (.int p1), .val (.int p2), .val (.int p3), .val (.int p4), .val (.int (2 : Int32)), .val (.int d0), .val (.int d1), .unset, .unset, .unset, .unset, .unset, .unset, .unset] [])) t
        refine XS.iloadN X0.here hx rfl (hb hby at_49) rfl ?_
        show Steps p.tables e below (s₁.setTop (mkF m 50 #[.val (.int p0), .val (.int p1), .val (.int p2), .val (.int p3), .val (.int p4), .val (.int (2 : Int32)), .val (.int d0), .val (.int d1), .unset, .unset, .unset, .unset, .unset, .unset, .unset] [(.int p3)])) t
        refine XS.bipush X0.here hx rfl (hb hby at_50) ?_
        show Steps p.tables e below (s₁.setTop (mkF m 52 #[.val (.int p0), .val (.int p1), .val (.int p2), .val (.int p3), .val (.int p4), .val (.int (2 : Int32)), .val (.int d0), .val (.int d1), .unset, .unset, .unset, .unset, .unset, .unset, .unset] [(.int (7 : Int32)), (.int p3)])) t
        refine XS.iand X0.here hx rfl (hb hby at_52) rfl ?_
        show Steps p.tables e below (s₁.setTop (mkF m 53 #[.val (.int p0), .val (.int p1), .val (.int p2), .val (.int p3), .val (.int p4), .val (.int (2 : Int32)), .val (.int d0), .val (.int d1), .unset, .unset, .unset, .unset, .unset, .unset, .unset] [(.int (p3 &&& (7 : Int32)))])) t
        exact (congrArg (fun z => Steps p.tables e below (s₁.setTop (mkF m 53 #[.val (.int p0), .val (.int p1), .val (.int p2), .val (.int p3), .val (.int p4), .val (.int (2 : Int32)), .val (.int d0), .val (.int d1), .unset, .unset, .unset, .unset, .unset, .unset, .unset] [(.int z)])) t) (if_pos hd101)).mp k
      · refine XS.ifNo X0.here hx rfl (hb hby at_42) rfl ((if0 _ _).trans (feq hd101).1) ?_
        show Steps p.tables e below (s₁.setTop (mkF m 45 #[.val (.int p0), .val (.int p1), .val (.int p2), .val (.int p3), .val (.int p4), .val (.int (2 : Int32)), .val (.int d0), .val (.int d1), .unset, .unset, .unset, .unset, .unset, .unset, .unset] [])) t
        refine XS.iloadN X0.here hx rfl (hb hby at_45) rfl ?_
        show Steps p.tables e below (s₁.setTop (mkF m 46 #[.val (.int p0), .val (.int p1), .val (.int p2), .val (.int p3), .val (.int p4), .val (.int (2 : Int32)), .val (.int d0), .val (.int d1), .unset, .unset, .unset, .unset, .unset, .unset, .unset] [(.int p3)])) t
        refine XS.goto X0.here hx rfl (pc0 := 46) (pc' := 53) rfl (hb hby at_46) (by decide) (by decide) ?_
        show Steps p.tables e below (s₁.setTop (mkF m 53 #[.val (.int p0), .val (.int p1), .val (.int p2), .val (.int p3), .val (.int p4), .val (.int (2 : Int32)), .val (.int d0), .val (.int d1), .unset, .unset, .unset, .unset, .unset, .unset, .unset] [(.int p3)])) t
        exact (congrArg (fun z => Steps p.tables e below (s₁.setTop (mkF m 53 #[.val (.int p0), .val (.int p1), .val (.int p2), .val (.int p3), .val (.int p4), .val (.int (2 : Int32)), .val (.int d0), .val (.int d1), .unset, .unset, .unset, .unset, .unset, .unset, .unset] [(.int z)])) t) (if_neg hd101)).mp k
    obtain ⟨d2, hd2⟩ : ∃ z, z = (if (p0 &&& (16 : Int32)) = (0 : Int32) then (p3 &&& (7 : Int32)) else p3) := ⟨_, rfl⟩
    refine own_go (B := s₁.setTop (mkF m 53 #[.val (.int p0), .val (.int p1), .val (.int p2), .val (.int p3), .val (.int p4), .val (.int (2 : Int32)), .val (.int d0), .val (.int d1), .unset, .unset, .unset, .unset, .unset, .unset, .unset] [(.int d2)])) (fun t k => (congrArg (fun z => Steps p.tables e below (s₁.setTop (mkF m 53 #[.val (.int p0), .val (.int p1), .val (.int p2), .val (.int p3), .val (.int p4), .val (.int (2 : Int32)), .val (.int d0), .val (.int d1), .unset, .unset, .unset, .unset, .unset, .unset, .unset] [(.int z)])) t) (hd2.symm)).mpr k) ?_
    refine own_go (B := s₁.setTop (mkF m 57 #[.val (.int p0), .val (.int p1), .val (.int p2), .val (.int p3), .val (.int p4), .val (.int (2 : Int32)), .val (.int d0), .val (.int d1), .val (.int d2), .unset, .unset, .unset, .unset, .unset, .unset] [(.int (7 : Int32))])) (fun t k => ?_) ?_
    · show Steps p.tables e below (s₁.setTop (mkF m 53 #[.val (.int p0), .val (.int p1), .val (.int p2), .val (.int p3), .val (.int p4), .val (.int (2 : Int32)), .val (.int d0), .val (.int d1), .unset, .unset, .unset, .unset, .unset, .unset, .unset] [(.int d2)])) t
      refine XS.istore X0.here hx rfl (hb hby at_53) rfl (l' := #[.val (.int p0), .val (.int p1), .val (.int p2), .val (.int p3), .val (.int p4), .val (.int (2 : Int32)), .val (.int d0), .val (.int d1), .val (.int d2), .unset, .unset, .unset, .unset, .unset, .unset]) rfl ?_
      refine XS.bipush X0.here hx rfl (hb hby at_55) ?_
      exact k
    obtain ⟨T102, h102, k102, X102, e102, E102, A102, EA102, st102⟩ := newPE X0 hx hZ (hw _ (List.mem_of_getElem? (i := 0) rfl)) e0 (g := (mkF m 57 #[.val (.int p0), .val (.int p1), .val (.int p2), .val (.int p3), .val (.int p4), .val (.int (2 : Int32)), .val (.int d0), .val (.int d1), .val (.int d2), .unset, .unset, .unset, .unset, .unset, .unset] [(.int (7 : Int32))])) rfl (hb hby at_57) rfl (by decide) (cap := 7) (by decide) (by decide) (by decide) (by decide) (ad := "[I") (by decide)
    obtain ⟨b102, g102⟩ : ∃ z, z = h0.size := ⟨_, rfl⟩
    rw [← g102] at A102 EA102 st102
    have g_b102 : n0 ≤ b102 := by rw [g102]; exact Z0
    have sz_b102 : h0.size ≤ b102 := by rw [g102]; exact K0.1
    have K102 : Keep h0 h102 [] := K0.ext E102
    have X102 : Stand p l e room_1 s m #[(.int p0), (.int p1), (.int p2), (.int p3), (.int p4)] below meth c T102 _ 1 7 := X102
    have V_b102 : Arv Z h102 b102 k102 .int (7 : Int32) [(.int (0 : Int32)), (.int (0 : Int32)), (.int (0 : Int32)), (.int (0 : Int32)), (.int (0 : Int32)), (.int (0 : Int32)), (.int (0 : Int32))] (.int (0 : Int32)) := (Arv.new A102 (by decide)).pad (pad_rep [] (.int (0 : Int32)) 7)
    refine own_go st102 ?_
    show own_Fin p.tables e below (T102.setTop (mkF m 59 #[.val (.int p0), .val (.int p1), .val (.int p2), .val (.int p3), .val (.int p4), .val (.int (2 : Int32)), .val (.int d0), .val (.int d1), .val (.int d2), .unset, .unset, .unset, .unset, .unset, .unset] [(.ref b102)])) _
    refine own_go (B := T102.setTop (mkF m 67 #[.val (.int p0), .val (.int p1), .val (.int p2), .val (.int p3), .val (.int p4), .val (.int (2 : Int32)), .val (.int d0), .val (.int d1), .val (.int d2), .val (.ref b102), .unset, .unset, .unset, .unset, .unset] [(.int (0 : Int32)), (.int p4), (.int (0 : Int32)), (.ref b102)])) (fun t k => ?_) ?_
    · show Steps p.tables e below (T102.setTop (mkF m 59 #[.val (.int p0), .val (.int p1), .val (.int p2), .val (.int p3), .val (.int p4), .val (.int (2 : Int32)), .val (.int d0), .val (.int d1), .val (.int d2), .unset, .unset, .unset, .unset, .unset, .unset] [(.ref b102)])) t
      refine XS.astore X102.here hx rfl (hb hby at_59) rfl rfl (l' := #[.val (.int p0), .val (.int p1), .val (.int p2), .val (.int p3), .val (.int p4), .val (.int (2 : Int32)), .val (.int d0), .val (.int d1), .val (.int d2), .val (.ref b102), .unset, .unset, .unset, .unset, .unset]) rfl ?_
      refine XS.aload X102.here hx rfl (hb hby at_61) rfl rfl ?_
      refine XS.iconst X102.here hx rfl (hb hby at_63) ?_
      refine XS.iload X102.here hx rfl (hb hby at_64) rfl ?_
      show Steps p.tables e below (T102.setTop (mkF m 66 #[.val (.int p0), .val (.int p1), .val (.int p2), .val (.int p3), .val (.int p4), .val (.int (2 : Int32)), .val (.int d0), .val (.int d1), .val (.int d2), .val (.ref b102), .unset, .unset, .unset, .unset, .unset] [(.int p4), (.int (0 : Int32)), (.ref b102)])) t
      refine XS.iconst X102.here hx rfl (hb hby at_66) ?_
      exact k
    obtain ⟨_, _, ⟨T103, L103, k103, n103⟩, -, X103, ⟨Lc103, hQ103, l103, y103, z103⟩, st103⟩ := Jvm.LawKit.callS X102 hx (y := (⟨"com/example/rollhaus/rollhaus/dice/FacesAmongPinLaw", "cnt", "(II)I"⟩ : MethodName)) hown (mvT hZ (hw _ (List.mem_of_getElem? (i := 1) rfl))) (mvT hZ (hw _ (List.mem_of_getElem? (i := 2) rfl))) (mvT hZ (hw _ (List.mem_of_getElem? (i := 3) rfl))) (mvT hZ (hw _ (List.mem_of_getElem? (i := 4) rfl))) (by decide) (backOf (W := 2) (rm1 l Z a0 hw [] p4 (0 : Int32)  h102 n0 (Nat.le_trans Z0 K102.1) ) hZ (hw _ (List.mem_of_getElem? (i := 4) rfl)) (hw _ (List.mem_of_getElem? (i := 3) rfl)) (by decide) (by decide)) (g := (mkF m 67 #[.val (.int p0), .val (.int p1), .val (.int p2), .val (.int p3), .val (.int p4), .val (.int (2 : Int32)), .val (.int d0), .val (.int d1), .val (.int d2), .val (.ref b102), .unset, .unset, .unset, .unset, .unset] [(.int (0 : Int32)), (.int p4), (.int (0 : Int32)), (.ref b102)])) rfl (by rw [hml]; rfl) (argsL := [(.int p4), (.int (0 : Int32))]) (rest := [(.int (0 : Int32)), (.ref b102)]) (lenOf pd0_0 rfl) rfl (by show 2 * 0 + _ ≤ _; exact Nat.le_of_eq rfl) (hb hby at_67) (fun _ _ => ⟨rfl, e102, (by decide : 1 + 0 ≤ _), (by decide : 7 + 0 ≤ _)⟩)
    dsimp only [Pt.U, Pt.locs, Pt.cells, Pt.slots] at X103 l103 y103 z103 st103 hQ103
    subst y103 z103
    have X103 : Stand p l e room_1 s m #[(.int p0), (.int p1), (.int p2), (.int p3), (.int p4)] below meth c T103 _ 1 7 := X103
    obtain ⟨rfl, N103q, e103⟩ := hQ103
    have N103 : Fr n0 L103 := by rw [l103]; exact Fr.app N0 N103q
    refine own_go (st103) ?_
    show own_Fin p.tables e below (T103.setTop (mkF m 70 #[.val (.int p0), .val (.int p1), .val (.int p2), .val (.int p3), .val (.int p4), .val (.int (2 : Int32)), .val (.int d0), .val (.int d1), .val (.int d2), .val (.ref b102), .unset, .unset, .unset, .unset, .unset] [(.int (own_cnt p4 (0 : Int32))), (.int (0 : Int32)), (.ref b102)])) _
    obtain ⟨cl104, Ar104, q104, S104, M104, Ha104, G104⟩ := id V_b102
    have hin104 : ¬ ((0 : Int32) < 0 ∨ cl104.slots.size ≤ ((0 : Int32)).toNatClampNeg) := inb_of S104 ⟨by decide, by decide⟩
    obtain ⟨T104, h104, X104, e104, W104, st104⟩ := stI X103 hx hZ e103 Ar104 (j := (0 : Int32)) hin104 (g := (mkF m 70 #[.val (.int p0), .val (.int p1), .val (.int p2), .val (.int p3), .val (.int p4), .val (.int (2 : Int32)), .val (.int d0), .val (.int d1), .val (.int d2), .val (.ref b102), .unset, .unset, .unset, .unset, .unset] [(.int (own_cnt p4 (0 : Int32))), (.int (0 : Int32)), (.ref b102)])) rfl rfl (hb hby at_70)
    have N104 := Fr.snoc X104 N103 g_b102
    have K104 : Keep h0 h104 [] := K102.wr W104 (Or.inr sz_b102)
    have V104 : Arv Z h104 b102 k102 .int (7 : Int32) [(.int (own_cnt p4 (0 : Int32))), (.int (0 : Int32)), (.int (0 : Int32)), (.int (0 : Int32)), (.int (0 : Int32)), (.int (0 : Int32)), (.int (0 : Int32))] (.int (0 : Int32)) := Arv.set Ar104 q104 S104 M104 Ha104 G104 rfl W104 0 rfl (Nat.le_of_ble_eq_true rfl)
    refine own_go st104 ?_
    show own_Fin p.tables e below (T104.setTop (mkF m 71 #[.val (.int p0), .val (.int p1), .val (.int p2), .val (.int p3), .val (.int p4), .val (.int (2 : Int32)), .val (.int d0), .val (.int d1), .val (.int d2), .val (.ref b102), .unset, .unset, .unset, .unset, .unset] [])) _
    refine own_go (B := T104.setTop (mkF m 77 #[.val (.int p0), .val (.int p1), .val (.int p2), .val (.int p3), .val (.int p4), .val (.int (2 : Int32)), .val (.int d0), .val (.int d1), .val (.int d2), .val (.ref b102), .unset, .unset, .unset, .unset, .unset] [(.int (1 : Int32)), (.int p4), (.int (1 : Int32)), (.ref b102)])) (fun t k => ?_) ?_
    · show Steps p.tables e below (T104.setTop (mkF m 71 #[.val (.int p0), .val (.int p1), .val (.int p2), .val (.int p3), .val (.int p4), .val (.int (2 : Int32)), .val (.int d0), .val (.int d1), .val (.int d2), .val (.ref b102), .unset, .unset, .unset, .unset, .unset] [])) t
      refine XS.aload X104.here hx rfl (hb hby at_71) rfl rfl ?_
      refine XS.iconst X104.here hx rfl (hb hby at_73) ?_
      refine XS.iload X104.here hx rfl (hb hby at_74) rfl ?_
      refine XS.iconst X104.here hx rfl (hb hby at_76) ?_
      exact k
    obtain ⟨_, _, ⟨T105, L105, k105, n105⟩, -, X105, ⟨Lc105, hQ105, l105, y105, z105⟩, st105⟩ := Jvm.LawKit.callS X104 hx (y := (⟨"com/example/rollhaus/rollhaus/dice/FacesAmongPinLaw", "cnt", "(II)I"⟩ : MethodName)) hown (mvT hZ (hw _ (List.mem_of_getElem? (i := 1) rfl))) (mvT hZ (hw _ (List.mem_of_getElem? (i := 2) rfl))) (mvT hZ (hw _ (List.mem_of_getElem? (i := 3) rfl))) (mvT hZ (hw _ (List.mem_of_getElem? (i := 4) rfl))) (by decide) (backOf (W := 2) (rm1 l Z a0 hw [] p4 (1 : Int32)  h104 n0 (Nat.le_trans Z0 K104.1) ) hZ (hw _ (List.mem_of_getElem? (i := 4) rfl)) (hw _ (List.mem_of_getElem? (i := 3) rfl)) (by decide) (by decide)) (g := (mkF m 77 #[.val (.int p0), .val (.int p1), .val (.int p2), .val (.int p3), .val (.int p4), .val (.int (2 : Int32)), .val (.int d0), .val (.int d1), .val (.int d2), .val (.ref b102), .unset, .unset, .unset, .unset, .unset] [(.int (1 : Int32)), (.int p4), (.int (1 : Int32)), (.ref b102)])) rfl (by rw [hml]; rfl) (argsL := [(.int p4), (.int (1 : Int32))]) (rest := [(.int (1 : Int32)), (.ref b102)]) (lenOf pd0_0 rfl) rfl (by show 2 * 0 + _ ≤ _; exact Nat.le_of_eq rfl) (hb hby at_77) (fun _ _ => ⟨rfl, e104, (by decide : 1 + 0 ≤ _), (by decide : 7 + 0 ≤ _)⟩)
    dsimp only [Pt.U, Pt.locs, Pt.cells, Pt.slots] at X105 l105 y105 z105 st105 hQ105
    subst y105 z105
    have X105 : Stand p l e room_1 s m #[(.int p0), (.int p1), (.int p2), (.int p3), (.int p4)] below meth c T105 _ 1 7 := X105
    obtain ⟨rfl, N105q, e105⟩ := hQ105
    have N105 : Fr n0 L105 := by rw [l105]; exact Fr.app N104 N105q
    refine own_go (st105) ?_
    show own_Fin p.tables e below (T105.setTop (mkF m 80 #[.val (.int p0), .val (.int p1), .val (.int p2), .val (.int p3), .val (.int p4), .val (.int (2 : Int32)), .val (.int d0), .val (.int d1), .val (.int d2), .val (.ref b102), .unset, .unset, .unset, .unset, .unset] [(.int (own_cnt p4 (1 : Int32))), (.int (1 : Int32)), (.ref b102)])) _
    obtain ⟨cl106, Ar106, q106, S106, M106, Ha106, G106⟩ := id V104
    have hin106 : ¬ ((1 : Int32) < 0 ∨ cl106.slots.size ≤ ((1 : Int32)).toNatClampNeg) := inb_of S106 ⟨by decide, by decide⟩
    obtain ⟨T106, h106, X106, e106, W106, st106⟩ := stI X105 hx hZ e105 Ar106 (j := (1 : Int32)) hin106 (g := (mkF m 80 #[.val (.int p0), .val (.int p1), .val (.int p2), .val (.int p3), .val (.int p4), .val (.int (2 : Int32)), .val (.int d0), .val (.int d1), .val (.int d2), .val (.ref b102), .unset, .unset, .unset, .unset, .unset] [(.int (own_cnt p4 (1 : Int32))), (.int (1 : Int32)), (.ref b102)])) rfl rfl (hb hby at_80)
    have N106 := Fr.snoc X106 N105 g_b102
    have K106 : Keep h0 h106 [] := K104.wr W106 (Or.inr sz_b102)
    have V106 : Arv Z h106 b102 k102 .int (7 : Int32) [(.int (own_cnt p4 (0 : Int32))), (.int (own_cnt p4 (1 : Int32))), (.int (0 : Int32)), (.int (0 : Int32)), (.int (0 : Int32)), (.int (0 : Int32)), (.int (0 : Int32))] (.int (0 : Int32)) := Arv.set Ar106 q106 S106 M106 Ha106 G106 rfl W106 1 rfl (Nat.le_of_ble_eq_true rfl)
    refine own_go st106 ?_
    show own_Fin p.tables e below (T106.setTop (mkF m 81 #[.val (.int p0), .val (.int p1), .val (.int p2), .val (.int p3), .val (.int p4), .val (.int (2 : Int32)), .val (.int d0), .val (.int d1), .val (.int d2), .val (.ref b102), .unset, .unset, .unset, .unset, .unset] [])) _
    refine own_go (B := T106.setTop (mkF m 87 #[.val (.int p0), .val (.int p1), .val (.int p2), .val (.int p3), .val (.int p4), .val (.int (2 : Int32)), .val (.int d0), .val (.int d1), .val (.int d2), .val (.ref b102), .unset, .unset, .unset, .unset, .unset] [(.int (2 : Int32)), (.int p4), (.int (2 : Int32)), (.ref b102)])) (fun t k => ?_) ?_
    · show Steps p.tables e below (T106.setTop (mkF m 81 #[.val (.int p0), .val (.int p1), .val (.int p2), .val (.int p3), .val (.int p4), .val (.int (2 : Int32)), .val (.int d0), .val (.int d1), .val (.int d2), .val (.ref b102), .unset, .unset, .unset, .unset, .unset] [])) t
      refine XS.aload X106.here hx rfl (hb hby at_81) rfl rfl ?_
      refine XS.iconst X106.here hx rfl (hb hby at_83) ?_
      refine XS.iload X106.here hx rfl (hb hby at_84) rfl ?_
      refine XS.iconst X106.here hx rfl (hb hby at_86) ?_
      exact k
    obtain ⟨_, _, ⟨T107, L107, k107, n107⟩, -, X107, ⟨Lc107, hQ107, l107, y107, z107⟩, st107⟩ := Jvm.LawKit.callS X106 hx (y := (⟨"com/example/rollhaus/rollhaus/dice/FacesAmongPinLaw", "cnt", "(II)I"⟩ : MethodName)) hown (mvT hZ (hw _ (List.mem_of_getElem? (i := 1) rfl))) (mvT hZ (hw _ (List.mem_of_getElem? (i := 2) rfl))) (mvT hZ (hw _ (List.mem_of_getElem? (i := 3) rfl))) (mvT hZ (hw _ (List.mem_of_getElem? (i := 4) rfl))) (by decide) (backOf (W := 2) (rm1 l Z a0 hw [] p4 (2 : Int32)  h106 n0 (Nat.le_trans Z0 K106.1) ) hZ (hw _ (List.mem_of_getElem? (i := 4) rfl)) (hw _ (List.mem_of_getElem? (i := 3) rfl)) (by decide) (by decide)) (g := (mkF m 87 #[.val (.int p0), .val (.int p1), .val (.int p2), .val (.int p3), .val (.int p4), .val (.int (2 : Int32)), .val (.int d0), .val (.int d1), .val (.int d2), .val (.ref b102), .unset, .unset, .unset, .unset, .unset] [(.int (2 : Int32)), (.int p4), (.int (2 : Int32)), (.ref b102)])) rfl (by rw [hml]; rfl) (argsL := [(.int p4), (.int (2 : Int32))]) (rest := [(.int (2 : Int32)), (.ref b102)]) (lenOf pd0_0 rfl) rfl (by show 2 * 0 + _ ≤ _; exact Nat.le_of_eq rfl) (hb hby at_87) (fun _ _ => ⟨rfl, e106, (by decide : 1 + 0 ≤ _), (by decide : 7 + 0 ≤ _)⟩)
    dsimp only [Pt.U, Pt.locs, Pt.cells, Pt.slots] at X107 l107 y107 z107 st107 hQ107
    subst y107 z107
    have X107 : Stand p l e room_1 s m #[(.int p0), (.int p1), (.int p2), (.int p3), (.int p4)] below meth c T107 _ 1 7 := X107
    obtain ⟨rfl, N107q, e107⟩ := hQ107
    have N107 : Fr n0 L107 := by rw [l107]; exact Fr.app N106 N107q
    refine own_go (st107) ?_
    show own_Fin p.tables e below (T107.setTop (mkF m 90 #[.val (.int p0), .val (.int p1), .val (.int p2), .val (.int p3), .val (.int p4), .val (.int (2 : Int32)), .val (.int d0), .val (.int d1), .val (.int d2), .val (.ref b102), .unset, .unset, .unset, .unset, .unset] [(.int (own_cnt p4 (2 : Int32))), (.int (2 : Int32)), (.ref b102)])) _
    obtain ⟨cl108, Ar108, q108, S108, M108, Ha108, G108⟩ := id V106
    have hin108 : ¬ ((2 : Int32) < 0 ∨ cl108.slots.size ≤ ((2 : Int32)).toNatClampNeg) := inb_of S108 ⟨by decide, by decide⟩
    obtain ⟨T108, h108, X108, e108, W108, st108⟩ := stI X107 hx hZ e107 Ar108 (j := (2 : Int32)) hin108 (g := (mkF m 90 #[.val (.int p0), .val (.int p1), .val (.int p2), .val (.int p3), .val (.int p4), .val (.int (2 : Int32)), .val (.int d0), .val (.int d1), .val (.int d2), .val (.ref b102), .unset, .unset, .unset, .unset, .unset] [(.int (own_cnt p4 (2 : Int32))), (.int (2 : Int32)), (.ref b102)])) rfl rfl (hb hby at_90)
    have N108 := Fr.snoc X108 N107 g_b102
    have K108 : Keep h0 h108 [] := K106.wr W108 (Or.inr sz_b102)
    have V108 : Arv Z h108 b102 k102 .int (7 : Int32) [(.int (own_cnt p4 (0 : Int32))), (.int (own_cnt p4 (1 : Int32))), (.int (own_cnt p4 (2 : Int32))), (.int (0 : Int32)), (.int (0 : Int32)), (.int (0 : Int32)), (.int (0 : Int32))] (.int (0 : Int32)) := Arv.set Ar108 q108 S108 M108 Ha108 G108 rfl W108 2 rfl (Nat.le_of_ble_eq_true rfl)
    refine own_go st108 ?_
    show own_Fin p.tables e below (T108.setTop (mkF m 91 #[.val (.int p0), .val (.int p1), .val (.int p2), .val (.int p3), .val (.int p4), .val (.int (2 : Int32)), .val (.int d0), .val (.int d1), .val (.int d2), .val (.ref b102), .unset, .unset, .unset, .unset, .unset] [])) _
    refine own_go (B := T108.setTop (mkF m 97 #[.val (.int p0), .val (.int p1), .val (.int p2), .val (.int p3), .val (.int p4), .val (.int (2 : Int32)), .val (.int d0), .val (.int d1), .val (.int d2), .val (.ref b102), .unset, .unset, .unset, .unset, .unset] [(.int (3 : Int32)), (.int p4), (.int (3 : Int32)), (.ref b102)])) (fun t k => ?_) ?_
    · show Steps p.tables e below (T108.setTop (mkF m 91 #[.val (.int p0), .val (.int p1), .val (.int p2), .val (.int p3), .val (.int p4), .val (.int (2 : Int32)), .val (.int d0), .val (.int d1), .val (.int d2), .val (.ref b102), .unset, .unset, .unset, .unset, .unset] [])) t
      refine XS.aload X108.here hx rfl (hb hby at_91) rfl rfl ?_
      refine XS.iconst X108.here hx rfl (hb hby at_93) ?_
      refine XS.iload X108.here hx rfl (hb hby at_94) rfl ?_
      refine XS.iconst X108.here hx rfl (hb hby at_96) ?_
      exact k
    obtain ⟨_, _, ⟨T109, L109, k109, n109⟩, -, X109, ⟨Lc109, hQ109, l109, y109, z109⟩, st109⟩ := Jvm.LawKit.callS X108 hx (y := (⟨"com/example/rollhaus/rollhaus/dice/FacesAmongPinLaw", "cnt", "(II)I"⟩ : MethodName)) hown (mvT hZ (hw _ (List.mem_of_getElem? (i := 1) rfl))) (mvT hZ (hw _ (List.mem_of_getElem? (i := 2) rfl))) (mvT hZ (hw _ (List.mem_of_getElem? (i := 3) rfl))) (mvT hZ (hw _ (List.mem_of_getElem? (i := 4) rfl))) (by decide) (backOf (W := 2) (rm1 l Z a0 hw [] p4 (3 : Int32)  h108 n0 (Nat.le_trans Z0 K108.1) ) hZ (hw _ (List.mem_of_getElem? (i := 4) rfl)) (hw _ (List.mem_of_getElem? (i := 3) rfl)) (by decide) (by decide)) (g := (mkF m 97 #[.val (.int p0), .val (.int p1), .val (.int p2), .val (.int p3), .val (.int p4), .val (.int (2 : Int32)), .val (.int d0), .val (.int d1), .val (.int d2), .val (.ref b102), .unset, .unset, .unset, .unset, .unset] [(.int (3 : Int32)), (.int p4), (.int (3 : Int32)), (.ref b102)])) rfl (by rw [hml]; rfl) (argsL := [(.int p4), (.int (3 : Int32))]) (rest := [(.int (3 : Int32)), (.ref b102)]) (lenOf pd0_0 rfl) rfl (by show 2 * 0 + _ ≤ _; exact Nat.le_of_eq rfl) (hb hby at_97) (fun _ _ => ⟨rfl, e108, (by decide : 1 + 0 ≤ _), (by decide : 7 + 0 ≤ _)⟩)
    dsimp only [Pt.U, Pt.locs, Pt.cells, Pt.slots] at X109 l109 y109 z109 st109 hQ109
    subst y109 z109
    have X109 : Stand p l e room_1 s m #[(.int p0), (.int p1), (.int p2), (.int p3), (.int p4)] below meth c T109 _ 1 7 := X109
    obtain ⟨rfl, N109q, e109⟩ := hQ109
    have N109 : Fr n0 L109 := by rw [l109]; exact Fr.app N108 N109q
    refine own_go (st109) ?_
    show own_Fin p.tables e below (T109.setTop (mkF m 100 #[.val (.int p0), .val (.int p1), .val (.int p2), .val (.int p3), .val (.int p4), .val (.int (2 : Int32)), .val (.int d0), .val (.int d1), .val (.int d2), .val (.ref b102), .unset, .unset, .unset, .unset, .unset] [(.int (own_cnt p4 (3 : Int32))), (.int (3 : Int32)), (.ref b102)])) _
    obtain ⟨cl110, Ar110, q110, S110, M110, Ha110, G110⟩ := id V108
    have hin110 : ¬ ((3 : Int32) < 0 ∨ cl110.slots.size ≤ ((3 : Int32)).toNatClampNeg) := inb_of S110 ⟨by decide, by decide⟩
    obtain ⟨T110, h110, X110, e110, W110, st110⟩ := stI X109 hx hZ e109 Ar110 (j := (3 : Int32)) hin110 (g := (mkF m 100 #[.val (.int p0), .val (.int p1), .val (.int p2), .val (.int p3), .val (.int p4), .val (.int (2 : Int32)), .val (.int d0), .val (.int d1), .val (.int d2), .val (.ref b102), .unset, .unset, .unset, .unset, .unset] [(.int (own_cnt p4 (3 : Int32))), (.int (3 : Int32)), (.ref b102)])) rfl rfl (hb hby at_100)
    have N110 := Fr.snoc X110 N109 g_b102
    have K110 : Keep h0 h110 [] := K108.wr W110 (Or.inr sz_b102)
    have V110 : Arv Z h110 b102 k102 .int (7 : Int32) [(.int (own_cnt p4 (0 : Int32))), (.int (own_cnt p4 (1 : Int32))), (.int (own_cnt p4 (2 : Int32))), (.int (own_cnt p4 (3 : Int32))), (.int (0 : Int32)), (.int (0 : Int32)), (.int (0 : Int32))] (.int (0 : Int32)) := Arv.set Ar110 q110 S110 M110 Ha110 G110 rfl W110 3 rfl (Nat.le_of_ble_eq_true rfl)
    refine own_go st110 ?_
    show own_Fin p.tables e below (T110.setTop (mkF m 101 #[.val (.int p0), .val (.int p1), .val (.int p2), .val (.int p3), .val (.int p4), .val (.int (2 : Int32)), .val (.int d0), .val (.int d1), .val (.int d2), .val (.ref b102), .unset, .unset, .unset, .unset, .unset] [])) _
    refine own_go (B := T110.setTop (mkF m 107 #[.val (.int p0), .val (.int p1), .val (.int p2), .val (.int p3), .val (.int p4), .val (.int (2 : Int32)), .val (.int d0), .val (.int d1), .val (.int d2), .val (.ref b102), .unset, .unset, .unset, .unset, .unset] [(.int (4 : Int32)), (.int p4), (.int (4 : Int32)), (.ref b102)])) (fun t k => ?_) ?_
    · show Steps p.tables e below (T110.setTop (mkF m 101 #[.val (.int p0), .val (.int p1), .val (.int p2), .val (.int p3), .val (.int p4), .val (.int (2 : Int32)), .val (.int d0), .val (.int d1), .val (.int d2), .val (.ref b102), .unset, .unset, .unset, .unset, .unset] [])) t
      refine XS.aload X110.here hx rfl (hb hby at_101) rfl rfl ?_
      refine XS.iconst X110.here hx rfl (hb hby at_103) ?_
      refine XS.iload X110.here hx rfl (hb hby at_104) rfl ?_
      refine XS.iconst X110.here hx rfl (hb hby at_106) ?_
      exact k
    obtain ⟨_, _, ⟨T111, L111, k111, n111⟩, -, X111, ⟨Lc111, hQ111, l111, y111, z111⟩, st111⟩ := Jvm.LawKit.callS X110 hx (y := (⟨"com/example/rollhaus/rollhaus/dice/FacesAmongPinLaw", "cnt", "(II)I"⟩ : MethodName)) hown (mvT hZ (hw _ (List.mem_of_getElem? (i := 1) rfl))) (mvT hZ (hw _ (List.mem_of_getElem? (i := 2) rfl))) (mvT hZ (hw _ (List.mem_of_getElem? (i := 3) rfl))) (mvT hZ (hw _ (List.mem_of_getElem? (i := 4) rfl))) (by decide) (backOf (W := 2) (rm1 l Z a0 hw [] p4 (4 : Int32)  h110 n0 (Nat.le_trans Z0 K110.1) ) hZ (hw _ (List.mem_of_getElem? (i := 4) rfl)) (hw _ (List.mem_of_getElem? (i := 3) rfl)) (by decide) (by decide)) (g := (mkF m 107 #[.val (.int p0), .val (.int p1), .val (.int p2), .val (.int p3), .val (.int p4), .val (.int (2 : Int32)), .val (.int d0), .val (.int d1), .val (.int d2), .val (.ref b102), .unset, .unset, .unset, .unset, .unset] [(.int (4 : Int32)), (.int p4), (.int (4 : Int32)), (.ref b102)])) rfl (by rw [hml]; rfl) (argsL := [(.int p4), (.int (4 : Int32))]) (rest := [(.int (4 : Int32)), (.ref b102)]) (lenOf pd0_0 rfl) rfl (by show 2 * 0 + _ ≤ _; exact Nat.le_of_eq rfl) (hb hby at_107) (fun _ _ => ⟨rfl, e110, (by decide : 1 + 0 ≤ _), (by decide : 7 + 0 ≤ _)⟩)
    dsimp only [Pt.U, Pt.locs, Pt.cells, Pt.slots] at X111 l111 y111 z111 st111 hQ111
    subst y111 z111
    have X111 : Stand p l e room_1 s m #[(.int p0), (.int p1), (.int p2), (.int p3), (.int p4)] below meth c T111 _ 1 7 := X111
    obtain ⟨rfl, N111q, e111⟩ := hQ111
    have N111 : Fr n0 L111 := by rw [l111]; exact Fr.app N110 N111q
    refine own_go (st111) ?_
    show own_Fin p.tables e below (T111.setTop (mkF m 110 #[.val (.int p0), .val (.int p1), .val (.int p2), .val (.int p3), .val (.int p4), .val (.int (2 : Int32)), .val (.int d0), .val (.int d1), .val (.int d2), .val (.ref b102), .unset, .unset, .unset, .unset, .unset] [(.int (own_cnt p4 (4 : Int32))), (.int (4 : Int32)), (.ref b102)])) _
    obtain ⟨cl112, Ar112, q112, S112, M112, Ha112, G112⟩ := id V110
    have hin112 : ¬ ((4 : Int32) < 0 ∨ cl112.slots.size ≤ ((4 : Int32)).toNatClampNeg) := inb_of S112 ⟨by decide, by decide⟩
    obtain ⟨T112, h112, X112, e112, W112, st112⟩ := stI X111 hx hZ e111 Ar112 (j := (4 : Int32)) hin112 (g := (mkF m 110 #[.val (.int p0), .val (.int p1), .val (.int p2), .val (.int p3), .val (.int p4), .val (.int (2 : Int32)), .val (.int d0), .val (.int d1), .val (.int d2), .val (.ref b102), .unset, .unset, .unset, .unset, .unset] [(.int (own_cnt p4 (4 : Int32))), (.int (4 : Int32)), (.ref b102)])) rfl rfl (hb hby at_110)
    have N112 := Fr.snoc X112 N111 g_b102
    have K112 : Keep h0 h112 [] := K110.wr W112 (Or.inr sz_b102)
    have V112 : Arv Z h112 b102 k102 .int (7 : Int32) [(.int (own_cnt p4 (0 : Int32))), (.int (own_cnt p4 (1 : Int32))), (.int (own_cnt p4 (2 : Int32))), (.int (own_cnt p4 (3 : Int32))), (.int (own_cnt p4 (4 : Int32))), (.int (0 : Int32)), (.int (0 : Int32))] (.int (0 : Int32)) := Arv.set Ar112 q112 S112 M112 Ha112 G112 rfl W112 4 rfl (Nat.le_of_ble_eq_true rfl)
    refine own_go st112 ?_
    show own_Fin p.tables e below (T112.setTop (mkF m 111 #[.val (.int p0), .val (.int p1), .val (.int p2), .val (.int p3), .val (.int p4), .val (.int (2 : Int32)), .val (.int d0), .val (.int d1), .val (.int d2), .val (.ref b102), .unset, .unset, .unset, .unset, .unset] [])) _
    refine own_go (B := T112.setTop (mkF m 117 #[.val (.int p0), .val (.int p1), .val (.int p2), .val (.int p3), .val (.int p4), .val (.int (2 : Int32)), .val (.int d0), .val (.int d1), .val (.int d2), .val (.ref b102), .unset, .unset, .unset, .unset, .unset] [(.int (5 : Int32)), (.int p4), (.int (5 : Int32)), (.ref b102)])) (fun t k => ?_) ?_
    · show Steps p.tables e below (T112.setTop (mkF m 111 #[.val (.int p0), .val (.int p1), .val (.int p2), .val (.int p3), .val (.int p4), .val (.int (2 : Int32)), .val (.int d0), .val (.int d1), .val (.int d2), .val (.ref b102), .unset, .unset, .unset, .unset, .unset] [])) t
      refine XS.aload X112.here hx rfl (hb hby at_111) rfl rfl ?_
      refine XS.iconst X112.here hx rfl (hb hby at_113) ?_
      refine XS.iload X112.here hx rfl (hb hby at_114) rfl ?_
      refine XS.iconst X112.here hx rfl (hb hby at_116) ?_
      exact k
    obtain ⟨_, _, ⟨T113, L113, k113, n113⟩, -, X113, ⟨Lc113, hQ113, l113, y113, z113⟩, st113⟩ := Jvm.LawKit.callS X112 hx (y := (⟨"com/example/rollhaus/rollhaus/dice/FacesAmongPinLaw", "cnt", "(II)I"⟩ : MethodName)) hown (mvT hZ (hw _ (List.mem_of_getElem? (i := 1) rfl))) (mvT hZ (hw _ (List.mem_of_getElem? (i := 2) rfl))) (mvT hZ (hw _ (List.mem_of_getElem? (i := 3) rfl))) (mvT hZ (hw _ (List.mem_of_getElem? (i := 4) rfl))) (by decide) (backOf (W := 2) (rm1 l Z a0 hw [] p4 (5 : Int32)  h112 n0 (Nat.le_trans Z0 K112.1) ) hZ (hw _ (List.mem_of_getElem? (i := 4) rfl)) (hw _ (List.mem_of_getElem? (i := 3) rfl)) (by decide) (by decide)) (g := (mkF m 117 #[.val (.int p0), .val (.int p1), .val (.int p2), .val (.int p3), .val (.int p4), .val (.int (2 : Int32)), .val (.int d0), .val (.int d1), .val (.int d2), .val (.ref b102), .unset, .unset, .unset, .unset, .unset] [(.int (5 : Int32)), (.int p4), (.int (5 : Int32)), (.ref b102)])) rfl (by rw [hml]; rfl) (argsL := [(.int p4), (.int (5 : Int32))]) (rest := [(.int (5 : Int32)), (.ref b102)]) (lenOf pd0_0 rfl) rfl (by show 2 * 0 + _ ≤ _; exact Nat.le_of_eq rfl) (hb hby at_117) (fun _ _ => ⟨rfl, e112, (by decide : 1 + 0 ≤ _), (by decide : 7 + 0 ≤ _)⟩)
    dsimp only [Pt.U, Pt.locs, Pt.cells, Pt.slots] at X113 l113 y113 z113 st113 hQ113
    subst y113 z113
    have X113 : Stand p l e room_1 s m #[(.int p0), (.int p1), (.int p2), (.int p3), (.int p4)] below meth c T113 _ 1 7 := X113
    obtain ⟨rfl, N113q, e113⟩ := hQ113
    have N113 : Fr n0 L113 := by rw [l113]; exact Fr.app N112 N113q
    refine own_go (st113) ?_
    show own_Fin p.tables e below (T113.setTop (mkF m 120 #[.val (.int p0), .val (.int p1), .val (.int p2), .val (.int p3), .val (.int p4), .val (.int (2 : Int32)), .val (.int d0), .val (.int d1), .val (.int d2), .val (.ref b102), .unset, .unset, .unset, .unset, .unset] [(.int (own_cnt p4 (5 : Int32))), (.int (5 : Int32)), (.ref b102)])) _
    obtain ⟨cl114, Ar114, q114, S114, M114, Ha114, G114⟩ := id V112
    have hin114 : ¬ ((5 : Int32) < 0 ∨ cl114.slots.size ≤ ((5 : Int32)).toNatClampNeg) := inb_of S114 ⟨by decide, by decide⟩
    obtain ⟨T114, h114, X114, e114, W114, st114⟩ := stI X113 hx hZ e113 Ar114 (j := (5 : Int32)) hin114 (g := (mkF m 120 #[.val (.int p0), .val (.int p1), .val (.int p2), .val (.int p3), .val (.int p4), .val (.int (2 : Int32)), .val (.int d0), .val (.int d1), .val (.int d2), .val (.ref b102), .unset, .unset, .unset, .unset, .unset] [(.int (own_cnt p4 (5 : Int32))), (.int (5 : Int32)), (.ref b102)])) rfl rfl (hb hby at_120)
    have N114 := Fr.snoc X114 N113 g_b102
    have K114 : Keep h0 h114 [] := K112.wr W114 (Or.inr sz_b102)
    have V114 : Arv Z h114 b102 k102 .int (7 : Int32) [(.int (own_cnt p4 (0 : Int32))), (.int (own_cnt p4 (1 : Int32))), (.int (own_cnt p4 (2 : Int32))), (.int (own_cnt p4 (3 : Int32))), (.int (own_cnt p4 (4 : Int32))), (.int (own_cnt p4 (5 : Int32))), (.int (0 : Int32))] (.int (0 : Int32)) := Arv.set Ar114 q114 S114 M114 Ha114 G114 rfl W114 5 rfl (Nat.le_of_ble_eq_true rfl)
    refine own_go st114 ?_
    show own_Fin p.tables e below (T114.setTop (mkF m 121 #[.val (.int p0), .val (.int p1), .val (.int p2), .val (.int p3), .val (.int p4), .val (.int (2 : Int32)), .val (.int d0), .val (.int d1), .val (.int d2), .val (.ref b102), .unset, .unset, .unset, .unset, .unset] [])) _
    refine own_go (B := T114.setTop (mkF m 129 #[.val (.int p0), .val (.int p1), .val (.int p2), .val (.int p3), .val (.int p4), .val (.int (2 : Int32)), .val (.int d0), .val (.int d1), .val (.int d2), .val (.ref b102), .unset, .unset, .unset, .unset, .unset] [(.int (6 : Int32)), (.int p4), (.int (6 : Int32)), (.ref b102)])) (fun t k => ?_) ?_
    · show Steps p.tables e below (T114.setTop (mkF m 121 #[.val (.int p0), .val (.int p1), .val (.int p2), .val (.int p3), .val (.int p4), .val (.int (2 : Int32)), .val (.int d0), .val (.int d1), .val (.int d2), .val (.ref b102), .unset, .unset, .unset, .unset, .unset] [])) t
      refine XS.aload X114.here hx rfl (hb hby at_121) rfl rfl ?_
      refine XS.bipush X114.here hx rfl (hb hby at_123) ?_
      refine XS.iload X114.here hx rfl (hb hby at_125) rfl ?_
      refine XS.bipush X114.here hx rfl (hb hby at_127) ?_
      exact k
    obtain ⟨_, _, ⟨T115, L115, k115, n115⟩, -, X115, ⟨Lc115, hQ115, l115, y115, z115⟩, st115⟩ := Jvm.LawKit.callS X114 hx (y := (⟨"com/example/rollhaus/rollhaus/dice/FacesAmongPinLaw", "cnt", "(II)I"⟩ : MethodName)) hown (mvT hZ (hw _ (List.mem_of_getElem? (i := 1) rfl))) (mvT hZ (hw _ (List.mem_of_getElem? (i := 2) rfl))) (mvT hZ (hw _ (List.mem_of_getElem? (i := 3) rfl))) (mvT hZ (hw _ (List.mem_of_getElem? (i := 4) rfl))) (by decide) (backOf (W := 2) (rm1 l Z a0 hw [] p4 (6 : Int32)  h114 n0 (Nat.le_trans Z0 K114.1) ) hZ (hw _ (List.mem_of_getElem? (i := 4) rfl)) (hw _ (List.mem_of_getElem? (i := 3) rfl)) (by decide) (by decide)) (g := (mkF m 129 #[.val (.int p0), .val (.int p1), .val (.int p2), .val (.int p3), .val (.int p4), .val (.int (2 : Int32)), .val (.int d0), .val (.int d1), .val (.int d2), .val (.ref b102), .unset, .unset, .unset, .unset, .unset] [(.int (6 : Int32)), (.int p4), (.int (6 : Int32)), (.ref b102)])) rfl (by rw [hml]; rfl) (argsL := [(.int p4), (.int (6 : Int32))]) (rest := [(.int (6 : Int32)), (.ref b102)]) (lenOf pd0_0 rfl) rfl (by show 2 * 0 + _ ≤ _; exact Nat.le_of_eq rfl) (hb hby at_129) (fun _ _ => ⟨rfl, e114, (by decide : 1 + 0 ≤ _), (by decide : 7 + 0 ≤ _)⟩)
    dsimp only [Pt.U, Pt.locs, Pt.cells, Pt.slots] at X115 l115 y115 z115 st115 hQ115
    subst y115 z115
    have X115 : Stand p l e room_1 s m #[(.int p0), (.int p1), (.int p2), (.int p3), (.int p4)] below meth c T115 _ 1 7 := X115
    obtain ⟨rfl, N115q, e115⟩ := hQ115
    have N115 : Fr n0 L115 := by rw [l115]; exact Fr.app N114 N115q
    refine own_go (st115) ?_
    show own_Fin p.tables e below (T115.setTop (mkF m 132 #[.val (.int p0), .val (.int p1), .val (.int p2), .val (.int p3), .val (.int p4), .val (.int (2 : Int32)), .val (.int d0), .val (.int d1), .val (.int d2), .val (.ref b102), .unset, .unset, .unset, .unset, .unset] [(.int (own_cnt p4 (6 : Int32))), (.int (6 : Int32)), (.ref b102)])) _
    obtain ⟨cl116, Ar116, q116, S116, M116, Ha116, G116⟩ := id V114
    have hin116 : ¬ ((6 : Int32) < 0 ∨ cl116.slots.size ≤ ((6 : Int32)).toNatClampNeg) := inb_of S116 ⟨by decide, by decide⟩
    obtain ⟨T116, h116, X116, e116, W116, st116⟩ := stI X115 hx hZ e115 Ar116 (j := (6 : Int32)) hin116 (g := (mkF m 132 #[.val (.int p0), .val (.int p1), .val (.int p2), .val (.int p3), .val (.int p4), .val (.int (2 : Int32)), .val (.int d0), .val (.int d1), .val (.int d2), .val (.ref b102), .unset, .unset, .unset, .unset, .unset] [(.int (own_cnt p4 (6 : Int32))), (.int (6 : Int32)), (.ref b102)])) rfl rfl (hb hby at_132)
    have N116 := Fr.snoc X116 N115 g_b102
    have K116 : Keep h0 h116 [] := K114.wr W116 (Or.inr sz_b102)
    have V116 : Arv Z h116 b102 k102 .int (7 : Int32) [(.int (own_cnt p4 (0 : Int32))), (.int (own_cnt p4 (1 : Int32))), (.int (own_cnt p4 (2 : Int32))), (.int (own_cnt p4 (3 : Int32))), (.int (own_cnt p4 (4 : Int32))), (.int (own_cnt p4 (5 : Int32))), (.int (own_cnt p4 (6 : Int32)))] (.int (0 : Int32)) := Arv.set Ar116 q116 S116 M116 Ha116 G116 rfl W116 6 rfl (Nat.le_of_ble_eq_true rfl)
    refine own_go st116 ?_
    show own_Fin p.tables e below (T116.setTop (mkF m 133 #[.val (.int p0), .val (.int p1), .val (.int p2), .val (.int p3), .val (.int p4), .val (.int (2 : Int32)), .val (.int d0), .val (.int d1), .val (.int d2), .val (.ref b102), .unset, .unset, .unset, .unset, .unset] [])) _
    refine own_go (B := T116.setTop (mkF m 135 #[.val (.int p0), .val (.int p1), .val (.int p2), .val (.int p3), .val (.int p4), .val (.int (2 : Int32)), .val (.int d0), .val (.int d1), .val (.int d2), .val (.ref b102), .unset, .unset, .unset, .unset, .unset] [(.int (2 : Int32))])) (fun t k => ?_) ?_
    · show Steps p.tables e below (T116.setTop (mkF m 133 #[.val (.int p0), .val (.int p1), .val (.int p2), .val (.int p3), .val (.int p4), .val (.int (2 : Int32)), .val (.int d0), .val (.int d1), .val (.int d2), .val (.ref b102), .unset, .unset, .unset, .unset, .unset] [])) t
      refine XS.iload X116.here hx rfl (hb hby at_133) rfl ?_
      exact k
    obtain ⟨T117, h117, k117, X117, e117, E117, A117, EA117, st117⟩ := newPE X116 hx hZ (hw _ (List.mem_of_getElem? (i := 0) rfl)) e116 (g := (mkF m 135 #[.val (.int p0), .val (.int p1), .val (.int p2), .val (.int p3), .val (.int p4), .val (.int (2 : Int32)), .val (.int d0), .val (.int d1), .val (.int d2), .val (.ref b102), .unset, .unset, .unset, .unset, .unset] [(.int (2 : Int32))])) rfl (hb hby at_135) rfl (by decide) (cap := 2) (by decide) (by decide) (by decide) (by decide) (ad := "[I") (by decide)
    obtain ⟨b117, g117⟩ : ∃ z, z = h116.size := ⟨_, rfl⟩
    rw [← g117] at A117 EA117 st117
    have g_b117 : n0 ≤ b117 := by rw [g117]; exact (Nat.le_trans Z0 K116.1)
    have sz_b117 : h0.size ≤ b117 := by rw [g117]; exact K116.1
    have ne118 : b102 ≠ b117 := Nat.ne_of_lt (by rw [g117]; exact V116.lt)
    have K117 : Keep h0 h117 [] := K116.ext E117
    have X117 : Stand p l e room_1 s m #[(.int p0), (.int p1), (.int p2), (.int p3), (.int p4)] below meth c T117 _ 2 9 := X117
    have V_b117 : Arv Z h117 b117 k117 .int (2 : Int32) [(.int (0 : Int32)), (.int (0 : Int32))] (.int (0 : Int32)) := (Arv.new A117 (by decide)).pad (pad_rep [] (.int (0 : Int32)) 2)
    refine own_go st117 ?_
    show own_Fin p.tables e below (T117.setTop (mkF m 137 #[.val (.int p0), .val (.int p1), .val (.int p2), .val (.int p3), .val (.int p4), .val (.int (2 : Int32)), .val (.int d0), .val (.int d1), .val (.int d2), .val (.ref b102), .unset, .unset, .unset, .unset, .unset] [(.ref b117)])) _
    refine own_go (B := T117.setTop (mkF m 149 #[.val (.int p0), .val (.int p1), .val (.int p2), .val (.int p3), .val (.int p4), .val (.int (2 : Int32)), .val (.int d0), .val (.int d1), .val (.int d2), .val (.ref b102), .val (.ref b117), .unset, .unset, .unset, .unset] [(.int d0), (.int (0 : Int32)), (.ref b117)])) (fun t k => ?_) ?_
    · show Steps p.tables e below (T117.setTop (mkF m 137 #[.val (.int p0), .val (.int p1), .val (.int p2), .val (.int p3), .val (.int p4), .val (.int (2 : Int32)), .val (.int d0), .val (.int d1), .val (.int d2), .val (.ref b102), .unset, .unset, .unset, .unset, .unset] [(.ref b117)])) t
      refine XS.astore X117.here hx rfl (hb hby at_137) rfl rfl (l' := #[.val (.int p0), .val (.int p1), .val (.int p2), .val (.int p3), .val (.int p4), .val (.int (2 : Int32)), .val (.int d0), .val (.int d1), .val (.int d2), .val (.ref b102), .val (.ref b117), .unset, .unset, .unset, .unset]) rfl ?_
      refine XS.iload X117.here hx rfl (hb hby at_139) rfl ?_
      refine XS.ifNo X117.here hx rfl (hb hby at_141) rfl ((if0 _ _).trans (tlt (by decide : (0 : Int32) < (2 : Int32))).2.2.2) ?_
      refine XS.aload X117.here hx rfl (hb hby at_144) rfl rfl ?_
      show Steps p.tables e below (T117.setTop (mkF m 146 #[.val (.int p0), .val (.int p1), .val (.int p2), .val (.int p3), .val (.int p4), .val (.int (2 : Int32)), .val (.int d0), .val (.int d1), .val (.int d2), .val (.ref b102), .val (.ref b117), .unset, .unset, .unset, .unset] [(.ref b117)])) t
      refine XS.iconst X117.here hx rfl (hb hby at_146) ?_
      refine XS.iload X117.here hx rfl (hb hby at_147) rfl ?_
      exact k
    obtain ⟨cl119, Ar119, q119, S119, M119, Ha119, G119⟩ := id V_b117
    have hin119 : ¬ ((0 : Int32) < 0 ∨ cl119.slots.size ≤ ((0 : Int32)).toNatClampNeg) := inb_of S119 ⟨by decide, by decide⟩
    obtain ⟨T119, h119, X119, e119, W119, st119⟩ := stI X117 hx hZ e117 Ar119 (j := (0 : Int32)) hin119 (g := (mkF m 149 #[.val (.int p0), .val (.int p1), .val (.int p2), .val (.int p3), .val (.int p4), .val (.int (2 : Int32)), .val (.int d0), .val (.int d1), .val (.int d2), .val (.ref b102), .val (.ref b117), .unset, .unset, .unset, .unset] [(.int d0), (.int (0 : Int32)), (.ref b117)])) rfl rfl (hb hby at_149)
    have N119 := Fr.snoc X119 N116 g_b117
    have K119 : Keep h0 h119 [] := K117.wr W119 (Or.inr sz_b117)
    have V119 : Arv Z h119 b117 k117 .int (2 : Int32) [(.int d0), (.int (0 : Int32))] (.int (0 : Int32)) := Arv.set Ar119 q119 S119 M119 Ha119 G119 rfl W119 0 rfl (Nat.le_of_ble_eq_true rfl)
    refine own_go st119 ?_
    show own_Fin p.tables e below (T119.setTop (mkF m 150 #[.val (.int p0), .val (.int p1), .val (.int p2), .val (.int p3), .val (.int p4), .val (.int (2 : Int32)), .val (.int d0), .val (.int d1), .val (.int d2), .val (.ref b102), .val (.ref b117), .unset, .unset, .unset, .unset] [])) _
    refine own_go (B := T119.setTop (mkF m 161 #[.val (.int p0), .val (.int p1), .val (.int p2), .val (.int p3), .val (.int p4), .val (.int (2 : Int32)), .val (.int d0), .val (.int d1), .val (.int d2), .val (.ref b102), .val (.ref b117), .unset, .unset, .unset, .unset] [(.int d1), (.int (1 : Int32)), (.ref b117)])) (fun t k => ?_) ?_
    · show Steps p.tables e below (T119.setTop (mkF m 150 #[.val (.int p0), .val (.int p1), .val (.int p2), .val (.int p3), .val (.int p4), .val (.int (2 : Int32)), .val (.int d0), .val (.int d1), .val (.int d2), .val (.ref b102), .val (.ref b117), .unset, .unset, .unset, .unset] [])) t
      refine XS.iload X119.here hx rfl (hb hby at_150) rfl ?_
      refine XS.iconst X119.here hx rfl (hb hby at_152) ?_
      refine XS.icmpNo X119.here hx rfl (hb hby at_153) rfl (tlt (by decide : (1 : Int32) < (2 : Int32))).2.2.2 ?_
      refine XS.aload X119.here hx rfl (hb hby at_156) rfl rfl ?_
      show Steps p.tables e below (T119.setTop (mkF m 158 #[.val (.int p0), .val (.int p1), .val (.int p2), .val (.int p3), .val (.int p4), .val (.int (2 : Int32)), .val (.int d0), .val (.int d1), .val (.int d2), .val (.ref b102), .val (.ref b117), .unset, .unset, .unset, .unset] [(.ref b117)])) t
      refine XS.iconst X119.here hx rfl (hb hby at_158) ?_
      refine XS.iload X119.here hx rfl (hb hby at_159) rfl ?_
      exact k
    obtain ⟨cl120, Ar120, q120, S120, M120, Ha120, G120⟩ := id V119
    have hin120 : ¬ ((1 : Int32) < 0 ∨ cl120.slots.size ≤ ((1 : Int32)).toNatClampNeg) := inb_of S120 ⟨by decide, by decide⟩
    obtain ⟨T120, h120, X120, e120, W120, st120⟩ := stI X119 hx hZ e119 Ar120 (j := (1 : Int32)) hin120 (g := (mkF m 161 #[.val (.int p0), .val (.int p1), .val (.int p2), .val (.int p3), .val (.int p4), .val (.int (2 : Int32)), .val (.int d0), .val (.int d1), .val (.int d2), .val (.ref b102), .val (.ref b117), .unset, .unset, .unset, .unset] [(.int d1), (.int (1 : Int32)), (.ref b117)])) rfl rfl (hb hby at_161)
    have N120 := Fr.snoc X120 N119 g_b117
    have K120 : Keep h0 h120 [] := K119.wr W120 (Or.inr sz_b117)
    have V120 : Arv Z h120 b117 k117 .int (2 : Int32) [(.int d0), (.int d1)] (.int (0 : Int32)) := Arv.set Ar120 q120 S120 M120 Ha120 G120 rfl W120 1 rfl (Nat.le_of_ble_eq_true rfl)
    refine own_go st120 ?_
    show own_Fin p.tables e below (T120.setTop (mkF m 162 #[.val (.int p0), .val (.int p1), .val (.int p2), .val (.int p3), .val (.int p4), .val (.int (2 : Int32)), .val (.int d0), .val (.int d1), .val (.int d2), .val (.ref b102), .val (.ref b117), .unset, .unset, .unset, .unset] [])) _
    refine own_go (B := T120.setTop (mkF m 178 #[.val (.int p0), .val (.int p1), .val (.int p2), .val (.int p3), .val (.int p4), .val (.int (2 : Int32)), .val (.int d0), .val (.int d1), .val (.int d2), .val (.ref b102), .val (.ref b117), .unset, .unset, .unset, .unset] [(.ref b102), (.ref b117)])) (fun t k => ?_) ?_
    · show Steps p.tables e below (T120.setTop (mkF m 162 #[.val (.int p0), .val (.int p1), .val (.int p2), .val (.int p3), .val (.int p4), .val (.int (2 : Int32)), .val (.int d0), .val (.int d1), .val (.int d2), .val (.ref b102), .val (.ref b117), .unset, .unset, .unset, .unset] [])) t
      refine XS.iload X120.here hx rfl (hb hby at_162) rfl ?_
      refine XS.iconst X120.here hx rfl (hb hby at_164) ?_
      refine XS.icmpYes X120.here hx rfl (pc0 := 165) (pc' := 174) rfl (hb hby at_165) rfl (flt (by decide : ¬ ((2 : Int32) < (2 : Int32)))).2.2.2 (by decide) (by decide) ?_
      refine XS.aload X120.here hx rfl (hb hby at_174) rfl rfl ?_
      show Steps p.tables e below (T120.setTop (mkF m 176 #[.val (.int p0), .val (.int p1), .val (.int p2), .val (.int p3), .val (.int p4), .val (.int (2 : Int32)), .val (.int d0), .val (.int d1), .val (.int d2), .val (.ref b102), .val (.ref b117), .unset, .unset, .unset, .unset] [(.ref b117)])) t
      refine XS.aload X120.here hx rfl (hb hby at_176) rfl rfl ?_
      exact k
    have f122 := (((V116.ext E117).other W119 ne118).other W120 ne118)
    have f123 := ((((((((((EA102.wr W104).wr W106).wr W108).wr W110).wr W112).wr W114).wr W116).ext E117).wr W119).wr W120)
    obtain ⟨_, _, ⟨T121, L121, k121, n121⟩, -, X121, ⟨Lc121, hQ121, l121, y121, z121⟩, st121⟩ := Jvm.LawKit.callS X120 hx (y := (⟨"com/example/rollhaus/rollhaus/dice/Faces", "among", "([I[I)Z"⟩ : MethodName)) hown (mvT hZ (hw _ (List.mem_of_getElem? (i := 5) rfl))) (mvT hZ (hw _ (List.mem_of_getElem? (i := 6) rfl))) (mvT hZ (hw _ (List.mem_of_getElem? (i := 7) rfl))) (mvT hZ (hw _ (List.mem_of_getElem? (i := 8) rfl))) (by decide) (backOf (W := 0) (rm3 l Z a0 hw [] b117 b102 k117 k102 2 [d0, d1] [(own_cnt p4 (0 : Int32)), (own_cnt p4 (1 : Int32)), (own_cnt p4 (2 : Int32)), (own_cnt p4 (3 : Int32)), (own_cnt p4 (4 : Int32)), (own_cnt p4 (5 : Int32)), (own_cnt p4 (6 : Int32))] h120 n0 (Nat.le_trans Z0 K120.1) V120 f122 f123 rfl (by decide) rfl) hZ (hw _ (List.mem_of_getElem? (i := 8) rfl)) (hw _ (List.mem_of_getElem? (i := 7) rfl)) (by decide) (by decide)) (g := (mkF m 178 #[.val (.int p0), .val (.int p1), .val (.int p2), .val (.int p3), .val (.int p4), .val (.int (2 : Int32)), .val (.int d0), .val (.int d1), .val (.int d2), .val (.ref b102), .val (.ref b117), .unset, .unset, .unset, .unset] [(.ref b102), (.ref b117)])) rfl (by rw [hml]; rfl) (argsL := [(.ref b117), (.ref b102)]) (rest := []) (lenOf pd0_1 rfl) rfl (by show 2 * 0 + _ ≤ _; exact Nat.le_of_eq rfl) (hb hby at_178) (fun _ _ => ⟨rfl, e120, (by decide : 2 + 1 ≤ _), (by decide : 9 + 7 ≤ _)⟩)
    dsimp only [Pt.U, Pt.locs, Pt.cells, Pt.slots] at X121 l121 y121 z121 st121 hQ121
    subst y121 z121
    have X121 : Stand p l e room_1 s m #[(.int p0), (.int p1), (.int p2), (.int p3), (.int p4)] below meth c T121 _ 3 16 := X121
    obtain ⟨rfl, N121q, Kq121⟩ := hQ121
    have N121 : Fr n0 L121 := by rw [l121]; exact Fr.app N120 N121q
    have K121 : Keep h0 T121.heap [] := K120.trans Kq121 all0
    refine own_go (st121) ?_
    show own_Fin p.tables e below (T121.setTop (mkF m 181 #[.val (.int p0), .val (.int p1), .val (.int p2), .val (.int p3), .val (.int p4), .val (.int (2 : Int32)), .val (.int d0), .val (.int d1), .val (.int d2), .val (.ref b102), .val (.ref b117), .unset, .unset, .unset, .unset] [(.int (own_am [d0, d1] [(own_cnt p4 (0 : Int32)), (own_cnt p4 (1 : Int32)), (own_cnt p4 (2 : Int32)), (own_cnt p4 (3 : Int32)), (own_cnt p4 (4 : Int32)), (own_cnt p4 (5 : Int32)), (own_cnt p4 (6 : Int32))]))])) _
    refine own_go (B := T121.setTop (mkF m 194 #[.val (.int p0), .val (.int p1), .val (.int p2), .val (.int p3), .val (.int p4), .val (.int (2 : Int32)), .val (.int d0), .val (.int d1), .val (.int d2), .val (.ref b102), .val (.ref b117), .val (.int (own_am [d0, d1] [(own_cnt p4 (0 : Int32)), (own_cnt p4 (1 : Int32)), (own_cnt p4 (2 : Int32)), (own_cnt p4 (3 : Int32)), (own_cnt p4 (4 : Int32)), (own_cnt p4 (5 : Int32)), (own_cnt p4 (6 : Int32))])), .unset, .unset, .unset] [(.int p4), (.int d2), (.int d1), (.int d0), (.int (2 : Int32)), (.int (0 : Int32))])) (fun t k => ?_) ?_
    · show Steps p.tables e below (T121.setTop (mkF m 181 #[.val (.int p0), .val (.int p1), .val (.int p2), .val (.int p3), .val (.int p4), .val (.int (2 : Int32)), .val (.int d0), .val (.int d1), .val (.int d2), .val (.ref b102), .val (.ref b117), .unset, .unset, .unset, .unset] [(.int (own_am [d0, d1] [(own_cnt p4 (0 : Int32)), (own_cnt p4 (1 : Int32)), (own_cnt p4 (2 : Int32)), (own_cnt p4 (3 : Int32)), (own_cnt p4 (4 : Int32)), (own_cnt p4 (5 : Int32)), (own_cnt p4 (6 : Int32))]))])) t
      refine XS.istore X121.here hx rfl (hb hby at_181) rfl (l' := #[.val (.int p0), .val (.int p1), .val (.int p2), .val (.int p3), .val (.int p4), .val (.int (2 : Int32)), .val (.int d0), .val (.int d1), .val (.int d2), .val (.ref b102), .val (.ref b117), .val (.int (own_am [d0, d1] [(own_cnt p4 (0 : Int32)), (own_cnt p4 (1 : Int32)), (own_cnt p4 (2 : Int32)), (own_cnt p4 (3 : Int32)), (own_cnt p4 (4 : Int32)), (own_cnt p4 (5 : Int32)), (own_cnt p4 (6 : Int32))])), .unset, .unset, .unset]) rfl ?_
      refine XS.iconst X121.here hx rfl (hb hby at_183) ?_
      refine XS.iload X121.here hx rfl (hb hby at_184) rfl ?_
      refine XS.iload X121.here hx rfl (hb hby at_186) rfl ?_
      show Steps p.tables e below (T121.setTop (mkF m 188 #[.val (.int p0), .val (.int p1), .val (.int p2), .val (.int p3), .val (.int p4), .val (.int (2 : Int32)), .val (.int d0), .val (.int d1), .val (.int d2), .val (.ref b102), .val (.ref b117), .val (.int (own_am [d0, d1] [(own_cnt p4 (0 : Int32)), (own_cnt p4 (1 : Int32)), (own_cnt p4 (2 : Int32)), (own_cnt p4 (3 : Int32)), (own_cnt p4 (4 : Int32)), (own_cnt p4 (5 : Int32)), (own_cnt p4 (6 : Int32))])), .unset, .unset, .unset] [(.int d0), (.int (2 : Int32)), (.int (0 : Int32))])) t
      refine XS.iload X121.here hx rfl (hb hby at_188) rfl ?_
      refine XS.iload X121.here hx rfl (hb hby at_190) rfl ?_
      refine XS.iload X121.here hx rfl (hb hby at_192) rfl ?_
      exact k
    obtain ⟨_, _, ⟨T124, L124, k124, n124⟩, -, X124, ⟨Lc124, hQ124, l124, y124, z124⟩, st124⟩ := Jvm.LawKit.callS X121 hx (y := (⟨"com/example/rollhaus/rollhaus/dice/FacesAmongPinLaw", "fits", "(IIIIII)Z"⟩ : MethodName)) hown (mvT hZ (hw _ (List.mem_of_getElem? (i := 18) rfl))) (mvT hZ (hw _ (List.mem_of_getElem? (i := 19) rfl))) (mvT hZ (hw _ (List.mem_of_getElem? (i := 3) rfl))) (mvT hZ (hw _ (List.mem_of_getElem? (i := 20) rfl))) (by decide) (backOf (W := 0) (rm2 l Z a0 hw [] (0 : Int32) (2 : Int32) d0 d1 d2 p4  T121.heap n0 (Nat.le_trans Z0 K121.1) ) hZ (hw _ (List.mem_of_getElem? (i := 20) rfl)) (hw _ (List.mem_of_getElem? (i := 3) rfl)) (by decide) (by decide)) (g := (mkF m 194 #[.val (.int p0), .val (.int p1), .val (.int p2), .val (.int p3), .val (.int p4), .val (.int (2 : Int32)), .val (.int d0), .val (.int d1), .val (.int d2), .val (.ref b102), .val (.ref b117), .val (.int (own_am [d0, d1] [(own_cnt p4 (0 : Int32)), (own_cnt p4 (1 : Int32)), (own_cnt p4 (2 : Int32)), (own_cnt p4 (3 : Int32)), (own_cnt p4 (4 : Int32)), (own_cnt p4 (5 : Int32)), (own_cnt p4 (6 : Int32))])), .unset, .unset, .unset] [(.int p4), (.int d2), (.int d1), (.int d0), (.int (2 : Int32)), (.int (0 : Int32))])) rfl (by rw [hml]; rfl) (argsL := [(.int (0 : Int32)), (.int (2 : Int32)), (.int d0), (.int d1), (.int d2), (.int p4)]) (rest := []) (lenOf pd0_2 rfl) rfl (by show 2 * 0 + _ ≤ _; exact Nat.le_of_eq rfl) (hb hby at_194) (fun _ _ => ⟨rfl, rfl, (by decide : 3 + 0 ≤ _), (by decide : 16 + 0 ≤ _)⟩)
    dsimp only [Pt.U, Pt.locs, Pt.cells, Pt.slots] at X124 l124 y124 z124 st124 hQ124
    subst y124 z124
    have X124 : Stand p l e room_1 s m #[(.int p0), (.int p1), (.int p2), (.int p3), (.int p4)] below meth c T124 _ 3 16 := X124
    obtain ⟨rfl, N124q, e124⟩ := hQ124
    have N124 : Fr n0 L124 := by rw [l124]; exact Fr.app N121 N124q
    refine own_go (st124) ?_
    show own_Fin p.tables e below (T124.setTop (mkF m 197 #[.val (.int p0), .val (.int p1), .val (.int p2), .val (.int p3), .val (.int p4), .val (.int (2 : Int32)), .val (.int d0), .val (.int d1), .val (.int d2), .val (.ref b102), .val (.ref b117), .val (.int (own_am [d0, d1] [(own_cnt p4 (0 : Int32)), (own_cnt p4 (1 : Int32)), (own_cnt p4 (2 : Int32)), (own_cnt p4 (3 : Int32)), (own_cnt p4 (4 : Int32)), (own_cnt p4 (5 : Int32)), (own_cnt p4 (6 : Int32))])), .unset, .unset, .unset] [(.int (own_fits (0 : Int32) (2 : Int32) d0 d1 d2 p4))])) _
    have joinJ : ∀ (TJ : State) (locsJ : List Loc) (XJ : Stand p l e room_1 s m #[(.int p0), (.int p1), (.int p2), (.int p3), (.int p4)] below meth c TJ locsJ 3 16) (eJ : TJ.heap = T121.heap) (NJ : Fr n0 locsJ) (ex : Int32) (hex : (own_am [d0, d1] [(own_cnt p4 (0 : Int32)), (own_cnt p4 (1 : Int32)), (own_cnt p4 (2 : Int32)), (own_cnt p4 (3 : Int32)), (own_cnt p4 (4 : Int32)), (own_cnt p4 (5 : Int32)), (own_cnt p4 (6 : Int32))]) = ex), own_Fin p.tables e below (TJ.setTop (mkF m 239 #[.val (.int p0), .val (.int p1), .val (.int p2), .val (.int p3), .val (.int p4), .val (.int (2 : Int32)), .val (.int d0), .val (.int d1), .val (.int d2), .val (.ref b102), .val (.ref b117), .val (.int (own_am [d0, d1] [(own_cnt p4 (0 : Int32)), (own_cnt p4 (1 : Int32)), (own_cnt p4 (2 : Int32)), (own_cnt p4 (3 : Int32)), (own_cnt p4 (4 : Int32)), (own_cnt p4 (5 : Int32)), (own_cnt p4 (6 : Int32))])), .unset, .unset, .unset] [(.int ex)])) (fun s₂ o => s₂.status = .running ∧ Ended s₂ below o ∧ ∃ v L, o = .returned v ∧ Q0 Z p0 p1 p2 p3 p4 h0 n0 v s₂.heap L ∧ FrameEnd s o s₂ L room_1.cells room_1.slots) := by
      intro TJ locsJ XJ eJ NJ ex hex
      refine own_go (B := TJ.setTop (mkF m 244 #[.val (.int p0), .val (.int p1), .val (.int p2), .val (.int p3), .val (.int p4), .val (.int (2 : Int32)), .val (.int d0), .val (.int d1), .val (.int d2), .val (.ref b102), .val (.ref b117), .val (.int (own_am [d0, d1] [(own_cnt p4 (0 : Int32)), (own_cnt p4 (1 : Int32)), (own_cnt p4 (2 : Int32)), (own_cnt p4 (3 : Int32)), (own_cnt p4 (4 : Int32)), (own_cnt p4 (5 : Int32)), (own_cnt p4 (6 : Int32))])), .val (.int ex), .unset, .unset] [(.int (0 : Int32)), (.ref b102)])) (fun t k => ?_) ?_
      · show Steps p.tables e below (TJ.setTop (mkF m 239 #[.val (.int p0), .val (.int p1), .val (.int p2), .val (.int p3), .val (.int p4), .val (.int (2 : Int32)), .val (.int d0), .val (.int d1), .val (.int d2), .val (.ref b102), .val (.ref b117), .val (.int (own_am [d0, d1] [(own_cnt p4 (0 : Int32)), (own_cnt p4 (1 : Int32)), (own_cnt p4 (2 : Int32)), (own_cnt p4 (3 : Int32)), (own_cnt p4 (4 : Int32)), (own_cnt p4 (5 : Int32)), (own_cnt p4 (6 : Int32))])), .unset, .unset, .unset] [(.int ex)])) t
        refine XS.istore XJ.here hx rfl (hb hby at_239) rfl (l' := #[.val (.int p0), .val (.int p1), .val (.int p2), .val (.int p3), .val (.int p4), .val (.int (2 : Int32)), .val (.int d0), .val (.int d1), .val (.int d2), .val (.ref b102), .val (.ref b117), .val (.int (own_am [d0, d1] [(own_cnt p4 (0 : Int32)), (own_cnt p4 (1 : Int32)), (own_cnt p4 (2 : Int32)), (own_cnt p4 (3 : Int32)), (own_cnt p4 (4 : Int32)), (own_cnt p4 (5 : Int32)), (own_cnt p4 (6 : Int32))])), .val (.int ex), .unset, .unset]) rfl ?_
        refine XS.aload XJ.here hx rfl (hb hby at_241) rfl rfl ?_
        refine XS.iconst XJ.here hx rfl (hb hby at_243) ?_
        exact k
      have f126 := (f122.keep Kq121 nin0)
      obtain ⟨cl125, Ar125, -, S125, M125, Ha125, G125⟩ := id f126
      have hin125 : ¬ ((0 : Int32) < 0 ∨ cl125.slots.size ≤ ((0 : Int32)).toNatClampNeg) := inb_of S125 ⟨by decide, by decide⟩
      have hat125 : cl125.slots[((0 : Int32)).toNatClampNeg]? = some (.int (own_cnt p4 (0 : Int32))) := Has.at Ha125 hin125 rfl
      refine own_go (B := TJ.setTop (mkF m 245 #[.val (.int p0), .val (.int p1), .val (.int p2), .val (.int p3), .val (.int p4), .val (.int (2 : Int32)), .val (.int d0), .val (.int d1), .val (.int d2), .val (.ref b102), .val (.ref b117), .val (.int (own_am [d0, d1] [(own_cnt p4 (0 : Int32)), (own_cnt p4 (1 : Int32)), (own_cnt p4 (2 : Int32)), (own_cnt p4 (3 : Int32)), (own_cnt p4 (4 : Int32)), (own_cnt p4 (5 : Int32)), (own_cnt p4 (6 : Int32))])), .val (.int ex), .unset, .unset] [(.int (own_cnt p4 (0 : Int32)))])) (fun t k => ?_) ?_
      · exact XJ.iaload hx (j := (0 : Int32)) (v := (.int (own_cnt p4 (0 : Int32)))) (by rw [eJ]; exact Ar125.1) (State.isArrayOf_alike hZ.alike Ar125.2.1) Ar125.2.2 hin125 hat125 (g := (mkF m 244 #[.val (.int p0), .val (.int p1), .val (.int p2), .val (.int p3), .val (.int p4), .val (.int (2 : Int32)), .val (.int d0), .val (.int d1), .val (.int d2), .val (.ref b102), .val (.ref b117), .val (.int (own_am [d0, d1] [(own_cnt p4 (0 : Int32)), (own_cnt p4 (1 : Int32)), (own_cnt p4 (2 : Int32)), (own_cnt p4 (3 : Int32)), (own_cnt p4 (4 : Int32)), (own_cnt p4 (5 : Int32)), (own_cnt p4 (6 : Int32))])), .val (.int ex), .unset, .unset] [(.int (0 : Int32)), (.ref b102)])) rfl rfl (hb hby at_244) _ k
      refine own_go (B := TJ.setTop (mkF m 248 #[.val (.int p0), .val (.int p1), .val (.int p2), .val (.int p3), .val (.int p4), .val (.int (2 : Int32)), .val (.int d0), .val (.int d1), .val (.int d2), .val (.ref b102), .val (.ref b117), .val (.int (own_am [d0, d1] [(own_cnt p4 (0 : Int32)), (own_cnt p4 (1 : Int32)), (own_cnt p4 (2 : Int32)), (own_cnt p4 (3 : Int32)), (own_cnt p4 (4 : Int32)), (own_cnt p4 (5 : Int32)), (own_cnt p4 (6 : Int32))])), .val (.int ex), .unset, .unset] [(.int (0 : Int32)), (.int p4), (.int (own_cnt p4 (0 : Int32)))])) (fun t k => ?_) ?_
      · show Steps p.tables e below (TJ.setTop (mkF m 245 #[.val (.int p0), .val (.int p1), .val (.int p2), .val (.int p3), .val (.int p4), .val (.int (2 : Int32)), .val (.int d0), .val (.int d1), .val (.int d2), .val (.ref b102), .val (.ref b117), .val (.int (own_am [d0, d1] [(own_cnt p4 (0 : Int32)), (own_cnt p4 (1 : Int32)), (own_cnt p4 (2 : Int32)), (own_cnt p4 (3 : Int32)), (own_cnt p4 (4 : Int32)), (own_cnt p4 (5 : Int32)), (own_cnt p4 (6 : Int32))])), .val (.int ex), .unset, .unset] [(.int (own_cnt p4 (0 : Int32)))])) t
        refine XS.iload XJ.here hx rfl (hb hby at_245) rfl ?_
        refine XS.iconst XJ.here hx rfl (hb hby at_247) ?_
        exact k
      obtain ⟨_, _, ⟨T127, L127, k127, n127⟩, -, X127, ⟨Lc127, hQ127, l127, y127, z127⟩, st127⟩ := Jvm.LawKit.callS XJ hx (y := (⟨"com/example/rollhaus/rollhaus/dice/FacesAmongPinLaw", "cnt", "(II)I"⟩ : MethodName)) hown (mvT hZ (hw _ (List.mem_of_getElem? (i := 1) rfl))) (mvT hZ (hw _ (List.mem_of_getElem? (i := 2) rfl))) (mvT hZ (hw _ (List.mem_of_getElem? (i := 3) rfl))) (mvT hZ (hw _ (List.mem_of_getElem? (i := 4) rfl))) (by decide) (backOf (W := 1) (rm1 l Z a0 hw [] p4 (0 : Int32)  T121.heap n0 (Nat.le_trans Z0 K121.1) ) hZ (hw _ (List.mem_of_getElem? (i := 4) rfl)) (hw _ (List.mem_of_getElem? (i := 3) rfl)) (by decide) (by decide)) (g := (mkF m 248 #[.val (.int p0), .val (.int p1), .val (.int p2), .val (.int p3), .val (.int p4), .val (.int (2 : Int32)), .val (.int d0), .val (.int d1), .val (.int d2), .val (.ref b102), .val (.ref b117), .val (.int (own_am [d0, d1] [(own_cnt p4 (0 : Int32)), (own_cnt p4 (1 : Int32)), (own_cnt p4 (2 : Int32)), (own_cnt p4 (3 : Int32)), (own_cnt p4 (4 : Int32)), (own_cnt p4 (5 : Int32)), (own_cnt p4 (6 : Int32))])), .val (.int ex), .unset, .unset] [(.int (0 : Int32)), (.int p4), (.int (own_cnt p4 (0 : Int32)))])) rfl (by rw [hml]; rfl) (argsL := [(.int p4), (.int (0 : Int32))]) (rest := [(.int (own_cnt p4 (0 : Int32)))]) (lenOf pd0_0 rfl) rfl (by show 2 * 0 + _ ≤ _; exact Nat.le_of_eq rfl) (hb hby at_248) (fun _ _ => ⟨rfl, eJ, (by decide : 3 + 0 ≤ _), (by decide : 16 + 0 ≤ _)⟩)
      dsimp only [Pt.U, Pt.locs, Pt.cells, Pt.slots] at X127 l127 y127 z127 st127 hQ127
      subst y127 z127
      have X127 : Stand p l e room_1 s m #[(.int p0), (.int p1), (.int p2), (.int p3), (.int p4)] below meth c T127 _ 3 16 := X127
      obtain ⟨rfl, N127q, e127⟩ := hQ127
      have N127 : Fr n0 L127 := by rw [l127]; exact Fr.app NJ N127q
      refine own_go (st127) ?_
      show own_Fin p.tables e below (T127.setTop (mkF m 251 #[.val (.int p0), .val (.int p1), .val (.int p2), .val (.int p3), .val (.int p4), .val (.int (2 : Int32)), .val (.int d0), .val (.int d1), .val (.int d2), .val (.ref b102), .val (.ref b117), .val (.int (own_am [d0, d1] [(own_cnt p4 (0 : Int32)), (own_cnt p4 (1 : Int32)), (own_cnt p4 (2 : Int32)), (own_cnt p4 (3 : Int32)), (own_cnt p4 (4 : Int32)), (own_cnt p4 (5 : Int32)), (own_cnt p4 (6 : Int32))])), .val (.int ex), .unset, .unset] [(.int (own_cnt p4 (0 : Int32))), (.int (own_cnt p4 (0 : Int32)))])) _
      refine own_go (B := T127.setTop (mkF m 257 #[.val (.int p0), .val (.int p1), .val (.int p2), .val (.int p3), .val (.int p4), .val (.int (2 : Int32)), .val (.int d0), .val (.int d1), .val (.int d2), .val (.ref b102), .val (.ref b117), .val (.int (own_am [d0, d1] [(own_cnt p4 (0 : Int32)), (own_cnt p4 (1 : Int32)), (own_cnt p4 (2 : Int32)), (own_cnt p4 (3 : Int32)), (own_cnt p4 (4 : Int32)), (own_cnt p4 (5 : Int32)), (own_cnt p4 (6 : Int32))])), .val (.int ex), .unset, .unset] [(.int (1 : Int32)), (.ref b102)])) (fun t k => ?_) ?_
      · show Steps p.tables e below (T127.setTop (mkF m 251 #[.val (.int p0), .val (.int p1), .val (.int p2), .val (.int p3), .val (.int p4), .val (.int (2 : Int32)), .val (.int d0), .val (.int d1), .val (.int d2), .val (.ref b102), .val (.ref b117), .val (.int (own_am [d0, d1] [(own_cnt p4 (0 : Int32)), (own_cnt p4 (1 : Int32)), (own_cnt p4 (2 : Int32)), (own_cnt p4 (3 : Int32)), (own_cnt p4 (4 : Int32)), (own_cnt p4 (5 : Int32)), (own_cnt p4 (6 : Int32))])), .val (.int ex), .unset, .unset] [(.int (own_cnt p4 (0 : Int32))), (.int (own_cnt p4 (0 : Int32)))])) t
        refine XS.icmpNo X127.here hx rfl (hb hby at_251) rfl (teq (rfl : (own_cnt p4 (0 : Int32)) = (own_cnt p4 (0 : Int32)))).2 ?_
        refine XS.aload X127.here hx rfl (hb hby at_254) rfl rfl ?_
        refine XS.iconst X127.here hx rfl (hb hby at_256) ?_
        exact k
      obtain ⟨cl128, Ar128, -, S128, M128, Ha128, G128⟩ := id f126
      have hin128 : ¬ ((1 : Int32) < 0 ∨ cl128.slots.size ≤ ((1 : Int32)).toNatClampNeg) := inb_of S128 ⟨by decide, by decide⟩
      have hat128 : cl128.slots[((1 : Int32)).toNatClampNeg]? = some (.int (own_cnt p4 (1 : Int32))) := Has.at Ha128 hin128 rfl
      refine own_go (B := T127.setTop (mkF m 258 #[.val (.int p0), .val (.int p1), .val (.int p2), .val (.int p3), .val (.int p4), .val (.int (2 : Int32)), .val (.int d0), .val (.int d1), .val (.int d2), .val (.ref b102), .val (.ref b117), .val (.int (own_am [d0, d1] [(own_cnt p4 (0 : Int32)), (own_cnt p4 (1 : Int32)), (own_cnt p4 (2 : Int32)), (own_cnt p4 (3 : Int32)), (own_cnt p4 (4 : Int32)), (own_cnt p4 (5 : Int32)), (own_cnt p4 (6 : Int32))])), .val (.int ex), .unset, .unset] [(.int (own_cnt p4 (1 : Int32)))])) (fun t k => ?_) ?_
      · exact X127.iaload hx (j := (1 : Int32)) (v := (.int (own_cnt p4 (1 : Int32)))) (by rw [e127]; exact Ar128.1) (State.isArrayOf_alike hZ.alike Ar128.2.1) Ar128.2.2 hin128 hat128 (g := (mkF m 257 #[.val (.int p0), .val (.int p1), .val (.int p2), .val (.int p3), .val (.int p4), .val (.int (2 : Int32)), .val (.int d0), .val (.int d1), .val (.int d2), .val (.ref b102), .val (.ref b117), .val (.int (own_am [d0, d1] [(own_cnt p4 (0 : Int32)), (own_cnt p4 (1 : Int32)), (own_cnt p4 (2 : Int32)), (own_cnt p4 (3 : Int32)), (own_cnt p4 (4 : Int32)), (own_cnt p4 (5 : Int32)), (own_cnt p4 (6 : Int32))])), .val (.int ex), .unset, .unset] [(.int (1 : Int32)), (.ref b102)])) rfl rfl (hb hby at_257) _ k
      refine own_go (B := T127.setTop (mkF m 261 #[.val (.int p0), .val (.int p1), .val (.int p2), .val (.int p3), .val (.int p4), .val (.int (2 : Int32)), .val (.int d0), .val (.int d1), .val (.int d2), .val (.ref b102), .val (.ref b117), .val (.int (own_am [d0, d1] [(own_cnt p4 (0 : Int32)), (own_cnt p4 (1 : Int32)), (own_cnt p4 (2 : Int32)), (own_cnt p4 (3 : Int32)), (own_cnt p4 (4 : Int32)), (own_cnt p4 (5 : Int32)), (own_cnt p4 (6 : Int32))])), .val (.int ex), .unset, .unset] [(.int (1 : Int32)), (.int p4), (.int (own_cnt p4 (1 : Int32)))])) (fun t k => ?_) ?_
      · show Steps p.tables e below (T127.setTop (mkF m 258 #[.val (.int p0), .val (.int p1), .val (.int p2), .val (.int p3), .val (.int p4), .val (.int (2 : Int32)), .val (.int d0), .val (.int d1), .val (.int d2), .val (.ref b102), .val (.ref b117), .val (.int (own_am [d0, d1] [(own_cnt p4 (0 : Int32)), (own_cnt p4 (1 : Int32)), (own_cnt p4 (2 : Int32)), (own_cnt p4 (3 : Int32)), (own_cnt p4 (4 : Int32)), (own_cnt p4 (5 : Int32)), (own_cnt p4 (6 : Int32))])), .val (.int ex), .unset, .unset] [(.int (own_cnt p4 (1 : Int32)))])) t
        refine XS.iload X127.here hx rfl (hb hby at_258) rfl ?_
        refine XS.iconst X127.here hx rfl (hb hby at_260) ?_
        exact k
      obtain ⟨_, _, ⟨T129, L129, k129, n129⟩, -, X129, ⟨Lc129, hQ129, l129, y129, z129⟩, st129⟩ := Jvm.LawKit.callS X127 hx (y := (⟨"com/example/rollhaus/rollhaus/dice/FacesAmongPinLaw", "cnt", "(II)I"⟩ : MethodName)) hown (mvT hZ (hw _ (List.mem_of_getElem? (i := 1) rfl))) (mvT hZ (hw _ (List.mem_of_getElem? (i := 2) rfl))) (mvT hZ (hw _ (List.mem_of_getElem? (i := 3) rfl))) (mvT hZ (hw _ (List.mem_of_getElem? (i := 4) rfl))) (by decide) (backOf (W := 1) (rm1 l Z a0 hw [] p4 (1 : Int32)  T121.heap n0 (Nat.le_trans Z0 K121.1) ) hZ (hw _ (List.mem_of_getElem? (i := 4) rfl)) (hw _ (List.mem_of_getElem? (i := 3) rfl)) (by decide) (by decide)) (g := (mkF m 261 #[.val (.int p0), .val (.int p1), .val (.int p2), .val (.int p3), .val (.int p4), .val (.int (2 : Int32)), .val (.int d0), .val (.int d1), .val (.int d2), .val (.ref b102), .val (.ref b117), .val (.int (own_am [d0, d1] [(own_cnt p4 (0 : Int32)), (own_cnt p4 (1 : Int32)), (own_cnt p4 (2 : Int32)), (own_cnt p4 (3 : Int32)), (own_cnt p4 (4 : Int32)), (own_cnt p4 (5 : Int32)), (own_cnt p4 (6 : Int32))])), .val (.int ex), .unset, .unset] [(.int (1 : Int32)), (.int p4), (.int (own_cnt p4 (1 : Int32)))])) rfl (by rw [hml]; rfl) (argsL := [(.int p4), (.int (1 : Int32))]) (rest := [(.int (own_cnt p4 (1 : Int32)))]) (lenOf pd0_0 rfl) rfl (by show 2 * 0 + _ ≤ _; exact Nat.le_of_eq rfl) (hb hby at_261) (fun _ _ => ⟨rfl, e127, (by decide : 3 + 0 ≤ _), (by decide : 16 + 0 ≤ _)⟩)
      dsimp only [Pt.U, Pt.locs, Pt.cells, Pt.slots] at X129 l129 y129 z129 st129 hQ129
      subst y129 z129
      have X129 : Stand p l e room_1 s m #[(.int p0), (.int p1), (.int p2), (.int p3), (.int p4)] below meth c T129 _ 3 16 := X129
      obtain ⟨rfl, N129q, e129⟩ := hQ129
      have N129 : Fr n0 L129 := by rw [l129]; exact Fr.app N127 N129q
      refine own_go (st129) ?_
      show own_Fin p.tables e below (T129.setTop (mkF m 264 #[.val (.int p0), .val (.int p1), .val (.int p2), .val (.int p3), .val (.int p4), .val (.int (2 : Int32)), .val (.int d0), .val (.int d1), .val (.int d2), .val (.ref b102), .val (.ref b117), .val (.int (own_am [d0, d1] [(own_cnt p4 (0 : Int32)), (own_cnt p4 (1 : Int32)), (own_cnt p4 (2 : Int32)), (own_cnt p4 (3 : Int32)), (own_cnt p4 (4 : Int32)), (own_cnt p4 (5 : Int32)), (own_cnt p4 (6 : Int32))])), .val (.int ex), .unset, .unset] [(.int (own_cnt p4 (1 : Int32))), (.int (own_cnt p4 (1 : Int32)))])) _
      refine own_go (B := T129.setTop (mkF m 270 #[.val (.int p0), .val (.int p1), .val (.int p2), .val (.int p3), .val (.int p4), .val (.int (2 : Int32)), .val (.int d0), .val (.int d1), .val (.int d2), .val (.ref b102), .val (.ref b117), .val (.int (own_am [d0, d1] [(own_cnt p4 (0 : Int32)), (own_cnt p4 (1 : Int32)), (own_cnt p4 (2 : Int32)), (own_cnt p4 (3 : Int32)), (own_cnt p4 (4 : Int32)), (own_cnt p4 (5 : Int32)), (own_cnt p4 (6 : Int32))])), .val (.int ex), .unset, .unset] [(.int (2 : Int32)), (.ref b102)])) (fun t k => ?_) ?_
      · show Steps p.tables e below (T129.setTop (mkF m 264 #[.val (.int p0), .val (.int p1), .val (.int p2), .val (.int p3), .val (.int p4), .val (.int (2 : Int32)), .val (.int d0), .val (.int d1), .val (.int d2), .val (.ref b102), .val (.ref b117), .val (.int (own_am [d0, d1] [(own_cnt p4 (0 : Int32)), (own_cnt p4 (1 : Int32)), (own_cnt p4 (2 : Int32)), (own_cnt p4 (3 : Int32)), (own_cnt p4 (4 : Int32)), (own_cnt p4 (5 : Int32)), (own_cnt p4 (6 : Int32))])), .val (.int ex), .unset, .unset] [(.int (own_cnt p4 (1 : Int32))), (.int (own_cnt p4 (1 : Int32)))])) t
        refine XS.icmpNo X129.here hx rfl (hb hby at_264) rfl (teq (rfl : (own_cnt p4 (1 : Int32)) = (own_cnt p4 (1 : Int32)))).2 ?_
        refine XS.aload X129.here hx rfl (hb hby at_267) rfl rfl ?_
        refine XS.iconst X129.here hx rfl (hb hby at_269) ?_
        exact k
      obtain ⟨cl130, Ar130, -, S130, M130, Ha130, G130⟩ := id f126
      have hin130 : ¬ ((2 : Int32) < 0 ∨ cl130.slots.size ≤ ((2 : Int32)).toNatClampNeg) := inb_of S130 ⟨by decide, by decide⟩
      have hat130 : cl130.slots[((2 : Int32)).toNatClampNeg]? = some (.int (own_cnt p4 (2 : Int32))) := Has.at Ha130 hin130 rfl
      refine own_go (B := T129.setTop (mkF m 271 #[.val (.int p0), .val (.int p1), .val (.int p2), .val (.int p3), .val (.int p4), .val (.int (2 : Int32)), .val (.int d0), .val (.int d1), .val (.int d2), .val (.ref b102), .val (.ref b117), .val (.int (own_am [d0, d1] [(own_cnt p4 (0 : Int32)), (own_cnt p4 (1 : Int32)), (own_cnt p4 (2 : Int32)), (own_cnt p4 (3 : Int32)), (own_cnt p4 (4 : Int32)), (own_cnt p4 (5 : Int32)), (own_cnt p4 (6 : Int32))])), .val (.int ex), .unset, .unset] [(.int (own_cnt p4 (2 : Int32)))])) (fun t k => ?_) ?_
      · exact X129.iaload hx (j := (2 : Int32)) (v := (.int (own_cnt p4 (2 : Int32)))) (by rw [e129]; exact Ar130.1) (State.isArrayOf_alike hZ.alike Ar130.2.1) Ar130.2.2 hin130 hat130 (g := (mkF m 270 #[.val (.int p0), .val (.int p1), .val (.int p2), .val (.int p3), .val (.int p4), .val (.int (2 : Int32)), .val (.int d0), .val (.int d1), .val (.int d2), .val (.ref b102), .val (.ref b117), .val (.int (own_am [d0, d1] [(own_cnt p4 (0 : Int32)), (own_cnt p4 (1 : Int32)), (own_cnt p4 (2 : Int32)), (own_cnt p4 (3 : Int32)), (own_cnt p4 (4 : Int32)), (own_cnt p4 (5 : Int32)), (own_cnt p4 (6 : Int32))])), .val (.int ex), .unset, .unset] [(.int (2 : Int32)), (.ref b102)])) rfl rfl (hb hby at_270) _ k
      refine own_go (B := T129.setTop (mkF m 274 #[.val (.int p0), .val (.int p1), .val (.int p2), .val (.int p3), .val (.int p4), .val (.int (2 : Int32)), .val (.int d0), .val (.int d1), .val (.int d2), .val (.ref b102), .val (.ref b117), .val (.int (own_am [d0, d1] [(own_cnt p4 (0 : Int32)), (own_cnt p4 (1 : Int32)), (own_cnt p4 (2 : Int32)), (own_cnt p4 (3 : Int32)), (own_cnt p4 (4 : Int32)), (own_cnt p4 (5 : Int32)), (own_cnt p4 (6 : Int32))])), .val (.int ex), .unset, .unset] [(.int (2 : Int32)), (.int p4), (.int (own_cnt p4 (2 : Int32)))])) (fun t k => ?_) ?_
      · show Steps p.tables e below (T129.setTop (mkF m 271 #[.val (.int p0), .val (.int p1), .val (.int p2), .val (.int p3), .val (.int p4), .val (.int (2 : Int32)), .val (.int d0), .val (.int d1), .val (.int d2), .val (.ref b102), .val (.ref b117), .val (.int (own_am [d0, d1] [(own_cnt p4 (0 : Int32)), (own_cnt p4 (1 : Int32)), (own_cnt p4 (2 : Int32)), (own_cnt p4 (3 : Int32)), (own_cnt p4 (4 : Int32)), (own_cnt p4 (5 : Int32)), (own_cnt p4 (6 : Int32))])), .val (.int ex), .unset, .unset] [(.int (own_cnt p4 (2 : Int32)))])) t
        refine XS.iload X129.here hx rfl (hb hby at_271) rfl ?_
        refine XS.iconst X129.here hx rfl (hb hby at_273) ?_
        exact k
      obtain ⟨_, _, ⟨T131, L131, k131, n131⟩, -, X131, ⟨Lc131, hQ131, l131, y131, z131⟩, st131⟩ := Jvm.LawKit.callS X129 hx (y := (⟨"com/example/rollhaus/rollhaus/dice/FacesAmongPinLaw", "cnt", "(II)I"⟩ : MethodName)) hown (mvT hZ (hw _ (List.mem_of_getElem? (i := 1) rfl))) (mvT hZ (hw _ (List.mem_of_getElem? (i := 2) rfl))) (mvT hZ (hw _ (List.mem_of_getElem? (i := 3) rfl))) (mvT hZ (hw _ (List.mem_of_getElem? (i := 4) rfl))) (by decide) (backOf (W := 1) (rm1 l Z a0 hw [] p4 (2 : Int32)  T121.heap n0 (Nat.le_trans Z0 K121.1) ) hZ (hw _ (List.mem_of_getElem? (i := 4) rfl)) (hw _ (List.mem_of_getElem? (i := 3) rfl)) (by decide) (by decide)) (g := (mkF m 274 #[.val (.int p0), .val (.int p1), .val (.int p2), .val (.int p3), .val (.int p4), .val (.int (2 : Int32)), .val (.int d0), .val (.int d1), .val (.int d2), .val (.ref b102), .val (.ref b117), .val (.int (own_am [d0, d1] [(own_cnt p4 (0 : Int32)), (own_cnt p4 (1 : Int32)), (own_cnt p4 (2 : Int32)), (own_cnt p4 (3 : Int32)), (own_cnt p4 (4 : Int32)), (own_cnt p4 (5 : Int32)), (own_cnt p4 (6 : Int32))])), .val (.int ex), .unset, .unset] [(.int (2 : Int32)), (.int p4), (.int (own_cnt p4 (2 : Int32)))])) rfl (by rw [hml]; rfl) (argsL := [(.int p4), (.int (2 : Int32))]) (rest := [(.int (own_cnt p4 (2 : Int32)))]) (lenOf pd0_0 rfl) rfl (by show 2 * 0 + _ ≤ _; exact Nat.le_of_eq rfl) (hb hby at_274) (fun _ _ => ⟨rfl, e129, (by decide : 3 + 0 ≤ _), (by decide : 16 + 0 ≤ _)⟩)
      dsimp only [Pt.U, Pt.locs, Pt.cells, Pt.slots] at X131 l131 y131 z131 st131 hQ131
      subst y131 z131
      have X131 : Stand p l e room_1 s m #[(.int p0), (.int p1), (.int p2), (.int p3), (.int p4)] below meth c T131 _ 3 16 := X131
      obtain ⟨rfl, N131q, e131⟩ := hQ131
      have N131 : Fr n0 L131 := by rw [l131]; exact Fr.app N129 N131q
      refine own_go (st131) ?_
      show own_Fin p.tables e below (T131.setTop (mkF m 277 #[.val (.int p0), .val (.int p1), .val (.int p2), .val (.int p3), .val (.int p4), .val (.int (2 : Int32)), .val (.int d0), .val (.int d1), .val (.int d2), .val (.ref b102), .val (.ref b117), .val (.int (own_am [d0, d1] [(own_cnt p4 (0 : Int32)), (own_cnt p4 (1 : Int32)), (own_cnt p4 (2 : Int32)), (own_cnt p4 (3 : Int32)), (own_cnt p4 (4 : Int32)), (own_cnt p4 (5 : Int32)), (own_cnt p4 (6 : Int32))])), .val (.int ex), .unset, .unset] [(.int (own_cnt p4 (2 : Int32))), (.int (own_cnt p4 (2 : Int32)))])) _
      refine own_go (B := T131.setTop (mkF m 283 #[.val (.int p0), .val (.int p1), .val (.int p2), .val (.int p3), .val (.int p4), .val (.int (2 : Int32)), .val (.int d0), .val (.int d1), .val (.int d2), .val (.ref b102), .val (.ref b117), .val (.int (own_am [d0, d1] [(own_cnt p4 (0 : Int32)), (own_cnt p4 (1 : Int32)), (own_cnt p4 (2 : Int32)), (own_cnt p4 (3 : Int32)), (own_cnt p4 (4 : Int32)), (own_cnt p4 (5 : Int32)), (own_cnt p4 (6 : Int32))])), .val (.int ex), .unset, .unset] [(.int (3 : Int32)), (.ref b102)])) (fun t k => ?_) ?_
      · show Steps p.tables e below (T131.setTop (mkF m 277 #[.val (.int p0), .val (.int p1), .val (.int p2), .val (.int p3), .val (.int p4), .val (.int (2 : Int32)), .val (.int d0), .val (.int d1), .val (.int d2), .val (.ref b102), .val (.ref b117), .val (.int (own_am [d0, d1] [(own_cnt p4 (0 : Int32)), (own_cnt p4 (1 : Int32)), (own_cnt p4 (2 : Int32)), (own_cnt p4 (3 : Int32)), (own_cnt p4 (4 : Int32)), (own_cnt p4 (5 : Int32)), (own_cnt p4 (6 : Int32))])), .val (.int ex), .unset, .unset] [(.int (own_cnt p4 (2 : Int32))), (.int (own_cnt p4 (2 : Int32)))])) t
        refine XS.icmpNo X131.here hx rfl (hb hby at_277) rfl (teq (rfl : (own_cnt p4 (2 : Int32)) = (own_cnt p4 (2 : Int32)))).2 ?_
        refine XS.aload X131.here hx rfl (hb hby at_280) rfl rfl ?_
        refine XS.iconst X131.here hx rfl (hb hby at_282) ?_
        exact k
      obtain ⟨cl132, Ar132, -, S132, M132, Ha132, G132⟩ := id f126
      have hin132 : ¬ ((3 : Int32) < 0 ∨ cl132.slots.size ≤ ((3 : Int32)).toNatClampNeg) := inb_of S132 ⟨by decide, by decide⟩
      have hat132 : cl132.slots[((3 : Int32)).toNatClampNeg]? = some (.int (own_cnt p4 (3 : Int32))) := Has.at Ha132 hin132 rfl
      refine own_go (B := T131.setTop (mkF m 284 #[.val (.int p0), .val (.int p1), .val (.int p2), .val (.int p3), .val (.int p4), .val (.int (2 : Int32)), .val (.int d0), .val (.int d1), .val (.int d2), .val (.ref b102), .val (.ref b117), .val (.int (own_am [d0, d1] [(own_cnt p4 (0 : Int32)), (own_cnt p4 (1 : Int32)), (own_cnt p4 (2 : Int32)), (own_cnt p4 (3 : Int32)), (own_cnt p4 (4 : Int32)), (own_cnt p4 (5 : Int32)), (own_cnt p4 (6 : Int32))])), .val (.int ex), .unset, .unset] [(.int (own_cnt p4 (3 : Int32)))])) (fun t k => ?_) ?_
      · exact X131.iaload hx (j := (3 : Int32)) (v := (.int (own_cnt p4 (3 : Int32)))) (by rw [e131]; exact Ar132.1) (State.isArrayOf_alike hZ.alike Ar132.2.1) Ar132.2.2 hin132 hat132 (g := (mkF m 283 #[.val (.int p0), .val (.int p1), .val (.int p2), .val (.int p3), .val (.int p4), .val (.int (2 : Int32)), .val (.int d0), .val (.int d1), .val (.int d2), .val (.ref b102), .val (.ref b117), .val (.int (own_am [d0, d1] [(own_cnt p4 (0 : Int32)), (own_cnt p4 (1 : Int32)), (own_cnt p4 (2 : Int32)), (own_cnt p4 (3 : Int32)), (own_cnt p4 (4 : Int32)), (own_cnt p4 (5 : Int32)), (own_cnt p4 (6 : Int32))])), .val (.int ex), .unset, .unset] [(.int (3 : Int32)), (.ref b102)])) rfl rfl (hb hby at_283) _ k
      refine own_go (B := T131.setTop (mkF m 287 #[.val (.int p0), .val (.int p1), .val (.int p2), .val (.int p3), .val (.int p4), .val (.int (2 : Int32)), .val (.int d0), .val (.int d1), .val (.int d2), .val (.ref b102), .val (.ref b117), .val (.int (own_am [d0, d1] [(own_cnt p4 (0 : Int32)), (own_cnt p4 (1 : Int32)), (own_cnt p4 (2 : Int32)), (own_cnt p4 (3 : Int32)), (own_cnt p4 (4 : Int32)), (own_cnt p4 (5 : Int32)), (own_cnt p4 (6 : Int32))])), .val (.int ex), .unset, .unset] [(.int (3 : Int32)), (.int p4), (.int (own_cnt p4 (3 : Int32)))])) (fun t k => ?_) ?_
      · show Steps p.tables e below (T131.setTop (mkF m 284 #[.val (.int p0), .val (.int p1), .val (.int p2), .val (.int p3), .val (.int p4), .val (.int (2 : Int32)), .val (.int d0), .val (.int d1), .val (.int d2), .val (.ref b102), .val (.ref b117), .val (.int (own_am [d0, d1] [(own_cnt p4 (0 : Int32)), (own_cnt p4 (1 : Int32)), (own_cnt p4 (2 : Int32)), (own_cnt p4 (3 : Int32)), (own_cnt p4 (4 : Int32)), (own_cnt p4 (5 : Int32)), (own_cnt p4 (6 : Int32))])), .val (.int ex), .unset, .unset] [(.int (own_cnt p4 (3 : Int32)))])) t
        refine XS.iload X131.here hx rfl (hb hby at_284) rfl ?_
        refine XS.iconst X131.here hx rfl (hb hby at_286) ?_
        exact k
      obtain ⟨_, _, ⟨T133, L133, k133, n133⟩, -, X133, ⟨Lc133, hQ133, l133, y133, z133⟩, st133⟩ := Jvm.LawKit.callS X131 hx (y := (⟨"com/example/rollhaus/rollhaus/dice/FacesAmongPinLaw", "cnt", "(II)I"⟩ : MethodName)) hown (mvT hZ (hw _ (List.mem_of_getElem? (i := 1) rfl))) (mvT hZ (hw _ (List.mem_of_getElem? (i := 2) rfl))) (mvT hZ (hw _ (List.mem_of_getElem? (i := 3) rfl))) (mvT hZ (hw _ (List.mem_of_getElem? (i := 4) rfl))) (by decide) (backOf (W := 1) (rm1 l Z a0 hw [] p4 (3 : Int32)  T121.heap n0 (Nat.le_trans Z0 K121.1) ) hZ (hw _ (List.mem_of_getElem? (i := 4) rfl)) (hw _ (List.mem_of_getElem? (i := 3) rfl)) (by decide) (by decide)) (g := (mkF m 287 #[.val (.int p0), .val (.int p1), .val (.int p2), .val (.int p3), .val (.int p4), .val (.int (2 : Int32)), .val (.int d0), .val (.int d1), .val (.int d2), .val (.ref b102), .val (.ref b117), .val (.int (own_am [d0, d1] [(own_cnt p4 (0 : Int32)), (own_cnt p4 (1 : Int32)), (own_cnt p4 (2 : Int32)), (own_cnt p4 (3 : Int32)), (own_cnt p4 (4 : Int32)), (own_cnt p4 (5 : Int32)), (own_cnt p4 (6 : Int32))])), .val (.int ex), .unset, .unset] [(.int (3 : Int32)), (.int p4), (.int (own_cnt p4 (3 : Int32)))])) rfl (by rw [hml]; rfl) (argsL := [(.int p4), (.int (3 : Int32))]) (rest := [(.int (own_cnt p4 (3 : Int32)))]) (lenOf pd0_0 rfl) rfl (by show 2 * 0 + _ ≤ _; exact Nat.le_of_eq rfl) (hb hby at_287) (fun _ _ => ⟨rfl, e131, (by decide : 3 + 0 ≤ _), (by decide : 16 + 0 ≤ _)⟩)
      dsimp only [Pt.U, Pt.locs, Pt.cells, Pt.slots] at X133 l133 y133 z133 st133 hQ133
      subst y133 z133
      have X133 : Stand p l e room_1 s m #[(.int p0), (.int p1), (.int p2), (.int p3), (.int p4)] below meth c T133 _ 3 16 := X133
      obtain ⟨rfl, N133q, e133⟩ := hQ133
      have N133 : Fr n0 L133 := by rw [l133]; exact Fr.app N131 N133q
      refine own_go (st133) ?_
      show own_Fin p.tables e below (T133.setTop (mkF m 290 #[.val (.int p0), .val (.int p1), .val (.int p2), .val (.int p3), .val (.int p4), .val (.int (2 : Int32)), .val (.int d0), .val (.int d1), .val (.int d2), .val (.ref b102), .val (.ref b117), .val (.int (own_am [d0, d1] [(own_cnt p4 (0 : Int32)), (own_cnt p4 (1 : Int32)), (own_cnt p4 (2 : Int32)), (own_cnt p4 (3 : Int32)), (own_cnt p4 (4 : Int32)), (own_cnt p4 (5 : Int32)), (own_cnt p4 (6 : Int32))])), .val (.int ex), .unset, .unset] [(.int (own_cnt p4 (3 : Int32))), (.int (own_cnt p4 (3 : Int32)))])) _
      refine own_go (B := T133.setTop (mkF m 296 #[.val (.int p0), .val (.int p1), .val (.int p2), .val (.int p3), .val (.int p4), .val (.int (2 : Int32)), .val (.int d0), .val (.int d1), .val (.int d2), .val (.ref b102), .val (.ref b117), .val (.int (own_am [d0, d1] [(own_cnt p4 (0 : Int32)), (own_cnt p4 (1 : Int32)), (own_cnt p4 (2 : Int32)), (own_cnt p4 (3 : Int32)), (own_cnt p4 (4 : Int32)), (own_cnt p4 (5 : Int32)), (own_cnt p4 (6 : Int32))])), .val (.int ex), .unset, .unset] [(.int (4 : Int32)), (.ref b102)])) (fun t k => ?_) ?_
      · show Steps p.tables e below (T133.setTop (mkF m 290 #[.val (.int p0), .val (.int p1), .val (.int p2), .val (.int p3), .val (.int p4), .val (.int (2 : Int32)), .val (.int d0), .val (.int d1), .val (.int d2), .val (.ref b102), .val (.ref b117), .val (.int (own_am [d0, d1] [(own_cnt p4 (0 : Int32)), (own_cnt p4 (1 : Int32)), (own_cnt p4 (2 : Int32)), (own_cnt p4 (3 : Int32)), (own_cnt p4 (4 : Int32)), (own_cnt p4 (5 : Int32)), (own_cnt p4 (6 : Int32))])), .val (.int ex), .unset, .unset] [(.int (own_cnt p4 (3 : Int32))), (.int (own_cnt p4 (3 : Int32)))])) t
        refine XS.icmpNo X133.here hx rfl (hb hby at_290) rfl (teq (rfl : (own_cnt p4 (3 : Int32)) = (own_cnt p4 (3 : Int32)))).2 ?_
        refine XS.aload X133.here hx rfl (hb hby at_293) rfl rfl ?_
        refine XS.iconst X133.here hx rfl (hb hby at_295) ?_
        exact k
      obtain ⟨cl134, Ar134, -, S134, M134, Ha134, G134⟩ := id f126
      have hin134 : ¬ ((4 : Int32) < 0 ∨ cl134.slots.size ≤ ((4 : Int32)).toNatClampNeg) := inb_of S134 ⟨by decide, by decide⟩
      have hat134 : cl134.slots[((4 : Int32)).toNatClampNeg]? = some (.int (own_cnt p4 (4 : Int32))) := Has.at Ha134 hin134 rfl
      refine own_go (B := T133.setTop (mkF m 297 #[.val (.int p0), .val (.int p1), .val (.int p2), .val (.int p3), .val (.int p4), .val (.int (2 : Int32)), .val (.int d0), .val (.int d1), .val (.int d2), .val (.ref b102), .val (.ref b117), .val (.int (own_am [d0, d1] [(own_cnt p4 (0 : Int32)), (own_cnt p4 (1 : Int32)), (own_cnt p4 (2 : Int32)), (own_cnt p4 (3 : Int32)), (own_cnt p4 (4 : Int32)), (own_cnt p4 (5 : Int32)), (own_cnt p4 (6 : Int32))])), .val (.int ex), .unset, .unset] [(.int (own_cnt p4 (4 : Int32)))])) (fun t k => ?_) ?_
      · exact X133.iaload hx (j := (4 : Int32)) (v := (.int (own_cnt p4 (4 : Int32)))) (by rw [e133]; exact Ar134.1) (State.isArrayOf_alike hZ.alike Ar134.2.1) Ar134.2.2 hin134 hat134 (g := (mkF m 296 #[.val (.int p0), .val (.int p1), .val (.int p2), .val (.int p3), .val (.int p4), .val (.int (2 : Int32)), .val (.int d0), .val (.int d1), .val (.int d2), .val (.ref b102), .val (.ref b117), .val (.int (own_am [d0, d1] [(own_cnt p4 (0 : Int32)), (own_cnt p4 (1 : Int32)), (own_cnt p4 (2 : Int32)), (own_cnt p4 (3 : Int32)), (own_cnt p4 (4 : Int32)), (own_cnt p4 (5 : Int32)), (own_cnt p4 (6 : Int32))])), .val (.int ex), .unset, .unset] [(.int (4 : Int32)), (.ref b102)])) rfl rfl (hb hby at_296) _ k
      refine own_go (B := T133.setTop (mkF m 300 #[.val (.int p0), .val (.int p1), .val (.int p2), .val (.int p3), .val (.int p4), .val (.int (2 : Int32)), .val (.int d0), .val (.int d1), .val (.int d2), .val (.ref b102), .val (.ref b117), .val (.int (own_am [d0, d1] [(own_cnt p4 (0 : Int32)), (own_cnt p4 (1 : Int32)), (own_cnt p4 (2 : Int32)), (own_cnt p4 (3 : Int32)), (own_cnt p4 (4 : Int32)), (own_cnt p4 (5 : Int32)), (own_cnt p4 (6 : Int32))])), .val (.int ex), .unset, .unset] [(.int (4 : Int32)), (.int p4), (.int (own_cnt p4 (4 : Int32)))])) (fun t k => ?_) ?_
      · show Steps p.tables e below (T133.setTop (mkF m 297 #[.val (.int p0), .val (.int p1), .val (.int p2), .val (.int p3), .val (.int p4), .val (.int (2 : Int32)), .val (.int d0), .val (.int d1), .val (.int d2), .val (.ref b102), .val (.ref b117), .val (.int (own_am [d0, d1] [(own_cnt p4 (0 : Int32)), (own_cnt p4 (1 : Int32)), (own_cnt p4 (2 : Int32)), (own_cnt p4 (3 : Int32)), (own_cnt p4 (4 : Int32)), (own_cnt p4 (5 : Int32)), (own_cnt p4 (6 : Int32))])), .val (.int ex), .unset, .unset] [(.int (own_cnt p4 (4 : Int32)))])) t
        refine XS.iload X133.here hx rfl (hb hby at_297) rfl ?_
        refine XS.iconst X133.here hx rfl (hb hby at_299) ?_
        exact k
      obtain ⟨_, _, ⟨T135, L135, k135, n135⟩, -, X135, ⟨Lc135, hQ135, l135, y135, z135⟩, st135⟩ := Jvm.LawKit.callS X133 hx (y := (⟨"com/example/rollhaus/rollhaus/dice/FacesAmongPinLaw", "cnt", "(II)I"⟩ : MethodName)) hown (mvT hZ (hw _ (List.mem_of_getElem? (i := 1) rfl))) (mvT hZ (hw _ (List.mem_of_getElem? (i := 2) rfl))) (mvT hZ (hw _ (List.mem_of_getElem? (i := 3) rfl))) (mvT hZ (hw _ (List.mem_of_getElem? (i := 4) rfl))) (by decide) (backOf (W := 1) (rm1 l Z a0 hw [] p4 (4 : Int32)  T121.heap n0 (Nat.le_trans Z0 K121.1) ) hZ (hw _ (List.mem_of_getElem? (i := 4) rfl)) (hw _ (List.mem_of_getElem? (i := 3) rfl)) (by decide) (by decide)) (g := (mkF m 300 #[.val (.int p0), .val (.int p1), .val (.int p2), .val (.int p3), .val (.int p4), .val (.int (2 : Int32)), .val (.int d0), .val (.int d1), .val (.int d2), .val (.ref b102), .val (.ref b117), .val (.int (own_am [d0, d1] [(own_cnt p4 (0 : Int32)), (own_cnt p4 (1 : Int32)), (own_cnt p4 (2 : Int32)), (own_cnt p4 (3 : Int32)), (own_cnt p4 (4 : Int32)), (own_cnt p4 (5 : Int32)), (own_cnt p4 (6 : Int32))])), .val (.int ex), .unset, .unset] [(.int (4 : Int32)), (.int p4), (.int (own_cnt p4 (4 : Int32)))])) rfl (by rw [hml]; rfl) (argsL := [(.int p4), (.int (4 : Int32))]) (rest := [(.int (own_cnt p4 (4 : Int32)))]) (lenOf pd0_0 rfl) rfl (by show 2 * 0 + _ ≤ _; exact Nat.le_of_eq rfl) (hb hby at_300) (fun _ _ => ⟨rfl, e133, (by decide : 3 + 0 ≤ _), (by decide : 16 + 0 ≤ _)⟩)
      dsimp only [Pt.U, Pt.locs, Pt.cells, Pt.slots] at X135 l135 y135 z135 st135 hQ135
      subst y135 z135
      have X135 : Stand p l e room_1 s m #[(.int p0), (.int p1), (.int p2), (.int p3), (.int p4)] below meth c T135 _ 3 16 := X135
      obtain ⟨rfl, N135q, e135⟩ := hQ135
      have N135 : Fr n0 L135 := by rw [l135]; exact Fr.app N133 N135q
      refine own_go (st135) ?_
      show own_Fin p.tables e below (T135.setTop (mkF m 303 #[.val (.int p0), .val (.int p1), .val (.int p2), .val (.int p3), .val (.int p4), .val (.int (2 : Int32)), .val (.int d0), .val (.int d1), .val (.int d2), .val (.ref b102), .val (.ref b117), .val (.int (own_am [d0, d1] [(own_cnt p4 (0 : Int32)), (own_cnt p4 (1 : Int32)), (own_cnt p4 (2 : Int32)), (own_cnt p4 (3 : Int32)), (own_cnt p4 (4 : Int32)), (own_cnt p4 (5 : Int32)), (own_cnt p4 (6 : Int32))])), .val (.int ex), .unset, .unset] [(.int (own_cnt p4 (4 : Int32))), (.int (own_cnt p4 (4 : Int32)))])) _
      refine own_go (B := T135.setTop (mkF m 309 #[.val (.int p0), .val (.int p1), .val (.int p2), .val (.int p3), .val (.int p4), .val (.int (2 : Int32)), .val (.int d0), .val (.int d1), .val (.int d2), .val (.ref b102), .val (.ref b117), .val (.int (own_am [d0, d1] [(own_cnt p4 (0 : Int32)), (own_cnt p4 (1 : Int32)), (own_cnt p4 (2 : Int32)), (own_cnt p4 (3 : Int32)), (own_cnt p4 (4 : Int32)), (own_cnt p4 (5 : Int32)), (own_cnt p4 (6 : Int32))])), .val (.int ex), .unset, .unset] [(.int (5 : Int32)), (.ref b102)])) (fun t k => ?_) ?_
      · show Steps p.tables e below (T135.setTop (mkF m 303 #[.val (.int p0), .val (.int p1), .val (.int p2), .val (.int p3), .val (.int p4), .val (.int (2 : Int32)), .val (.int d0), .val (.int d1), .val (.int d2), .val (.ref b102), .val (.ref b117), .val (.int (own_am [d0, d1] [(own_cnt p4 (0 : Int32)), (own_cnt p4 (1 : Int32)), (own_cnt p4 (2 : Int32)), (own_cnt p4 (3 : Int32)), (own_cnt p4 (4 : Int32)), (own_cnt p4 (5 : Int32)), (own_cnt p4 (6 : Int32))])), .val (.int ex), .unset, .unset] [(.int (own_cnt p4 (4 : Int32))), (.int (own_cnt p4 (4 : Int32)))])) t
        refine XS.icmpNo X135.here hx rfl (hb hby at_303) rfl (teq (rfl : (own_cnt p4 (4 : Int32)) = (own_cnt p4 (4 : Int32)))).2 ?_
        refine XS.aload X135.here hx rfl (hb hby at_306) rfl rfl ?_
        refine XS.iconst X135.here hx rfl (hb hby at_308) ?_
        exact k
      obtain ⟨cl136, Ar136, -, S136, M136, Ha136, G136⟩ := id f126
      have hin136 : ¬ ((5 : Int32) < 0 ∨ cl136.slots.size ≤ ((5 : Int32)).toNatClampNeg) := inb_of S136 ⟨by decide, by decide⟩
      have hat136 : cl136.slots[((5 : Int32)).toNatClampNeg]? = some (.int (own_cnt p4 (5 : Int32))) := Has.at Ha136 hin136 rfl
      refine own_go (B := T135.setTop (mkF m 310 #[.val (.int p0), .val (.int p1), .val (.int p2), .val (.int p3), .val (.int p4), .val (.int (2 : Int32)), .val (.int d0), .val (.int d1), .val (.int d2), .val (.ref b102), .val (.ref b117), .val (.int (own_am [d0, d1] [(own_cnt p4 (0 : Int32)), (own_cnt p4 (1 : Int32)), (own_cnt p4 (2 : Int32)), (own_cnt p4 (3 : Int32)), (own_cnt p4 (4 : Int32)), (own_cnt p4 (5 : Int32)), (own_cnt p4 (6 : Int32))])), .val (.int ex), .unset, .unset] [(.int (own_cnt p4 (5 : Int32)))])) (fun t k => ?_) ?_
      · exact X135.iaload hx (j := (5 : Int32)) (v := (.int (own_cnt p4 (5 : Int32)))) (by rw [e135]; exact Ar136.1) (State.isArrayOf_alike hZ.alike Ar136.2.1) Ar136.2.2 hin136 hat136 (g := (mkF m 309 #[.val (.int p0), .val (.int p1), .val (.int p2), .val (.int p3), .val (.int p4), .val (.int (2 : Int32)), .val (.int d0), .val (.int d1), .val (.int d2), .val (.ref b102), .val (.ref b117), .val (.int (own_am [d0, d1] [(own_cnt p4 (0 : Int32)), (own_cnt p4 (1 : Int32)), (own_cnt p4 (2 : Int32)), (own_cnt p4 (3 : Int32)), (own_cnt p4 (4 : Int32)), (own_cnt p4 (5 : Int32)), (own_cnt p4 (6 : Int32))])), .val (.int ex), .unset, .unset] [(.int (5 : Int32)), (.ref b102)])) rfl rfl (hb hby at_309) _ k
      refine own_go (B := T135.setTop (mkF m 313 #[.val (.int p0), .val (.int p1), .val (.int p2), .val (.int p3), .val (.int p4), .val (.int (2 : Int32)), .val (.int d0), .val (.int d1), .val (.int d2), .val (.ref b102), .val (.ref b117), .val (.int (own_am [d0, d1] [(own_cnt p4 (0 : Int32)), (own_cnt p4 (1 : Int32)), (own_cnt p4 (2 : Int32)), (own_cnt p4 (3 : Int32)), (own_cnt p4 (4 : Int32)), (own_cnt p4 (5 : Int32)), (own_cnt p4 (6 : Int32))])), .val (.int ex), .unset, .unset] [(.int (5 : Int32)), (.int p4), (.int (own_cnt p4 (5 : Int32)))])) (fun t k => ?_) ?_
      · show Steps p.tables e below (T135.setTop (mkF m 310 #[.val (.int p0), .val (.int p1), .val (.int p2), .val (.int p3), .val (.int p4), .val (.int (2 : Int32)), .val (.int d0), .val (.int d1), .val (.int d2), .val (.ref b102), .val (.ref b117), .val (.int (own_am [d0, d1] [(own_cnt p4 (0 : Int32)), (own_cnt p4 (1 : Int32)), (own_cnt p4 (2 : Int32)), (own_cnt p4 (3 : Int32)), (own_cnt p4 (4 : Int32)), (own_cnt p4 (5 : Int32)), (own_cnt p4 (6 : Int32))])), .val (.int ex), .unset, .unset] [(.int (own_cnt p4 (5 : Int32)))])) t
        refine XS.iload X135.here hx rfl (hb hby at_310) rfl ?_
        refine XS.iconst X135.here hx rfl (hb hby at_312) ?_
        exact k
      obtain ⟨_, _, ⟨T137, L137, k137, n137⟩, -, X137, ⟨Lc137, hQ137, l137, y137, z137⟩, st137⟩ := Jvm.LawKit.callS X135 hx (y := (⟨"com/example/rollhaus/rollhaus/dice/FacesAmongPinLaw", "cnt", "(II)I"⟩ : MethodName)) hown (mvT hZ (hw _ (List.mem_of_getElem? (i := 1) rfl))) (mvT hZ (hw _ (List.mem_of_getElem? (i := 2) rfl))) (mvT hZ (hw _ (List.mem_of_getElem? (i := 3) rfl))) (mvT hZ (hw _ (List.mem_of_getElem? (i := 4) rfl))) (by decide) (backOf (W := 1) (rm1 l Z a0 hw [] p4 (5 : Int32)  T121.heap n0 (Nat.le_trans Z0 K121.1) ) hZ (hw _ (List.mem_of_getElem? (i := 4) rfl)) (hw _ (List.mem_of_getElem? (i := 3) rfl)) (by decide) (by decide)) (g := (mkF m 313 #[.val (.int p0), .val (.int p1), .val (.int p2), .val (.int p3), .val (.int p4), .val (.int (2 : Int32)), .val (.int d0), .val (.int d1), .val (.int d2), .val (.ref b102), .val (.ref b117), .val (.int (own_am [d0, d1] [(own_cnt p4 (0 : Int32)), (own_cnt p4 (1 : Int32)), (own_cnt p4 (2 : Int32)), (own_cnt p4 (3 : Int32)), (own_cnt p4 (4 : Int32)), (own_cnt p4 (5 : Int32)), (own_cnt p4 (6 : Int32))])), .val (.int ex), .unset, .unset] [(.int (5 : Int32)), (.int p4), (.int (own_cnt p4 (5 : Int32)))])) rfl (by rw [hml]; rfl) (argsL := [(.int p4), (.int (5 : Int32))]) (rest := [(.int (own_cnt p4 (5 : Int32)))]) (lenOf pd0_0 rfl) rfl (by show 2 * 0 + _ ≤ _; exact Nat.le_of_eq rfl) (hb hby at_313) (fun _ _ => ⟨rfl, e135, (by decide : 3 + 0 ≤ _), (by decide : 16 + 0 ≤ _)⟩)
      dsimp only [Pt.U, Pt.locs, Pt.cells, Pt.slots] at X137 l137 y137 z137 st137 hQ137
      subst y137 z137
      have X137 : Stand p l e room_1 s m #[(.int p0), (.int p1), (.int p2), (.int p3), (.int p4)] below meth c T137 _ 3 16 := X137
      obtain ⟨rfl, N137q, e137⟩ := hQ137
      have N137 : Fr n0 L137 := by rw [l137]; exact Fr.app N135 N137q
      refine own_go (st137) ?_
      show own_Fin p.tables e below (T137.setTop (mkF m 316 #[.val (.int p0), .val (.int p1), .val (.int p2), .val (.int p3), .val (.int p4), .val (.int (2 : Int32)), .val (.int d0), .val (.int d1), .val (.int d2), .val (.ref b102), .val (.ref b117), .val (.int (own_am [d0, d1] [(own_cnt p4 (0 : Int32)), (own_cnt p4 (1 : Int32)), (own_cnt p4 (2 : Int32)), (own_cnt p4 (3 : Int32)), (own_cnt p4 (4 : Int32)), (own_cnt p4 (5 : Int32)), (own_cnt p4 (6 : Int32))])), .val (.int ex), .unset, .unset] [(.int (own_cnt p4 (5 : Int32))), (.int (own_cnt p4 (5 : Int32)))])) _
      refine own_go (B := T137.setTop (mkF m 323 #[.val (.int p0), .val (.int p1), .val (.int p2), .val (.int p3), .val (.int p4), .val (.int (2 : Int32)), .val (.int d0), .val (.int d1), .val (.int d2), .val (.ref b102), .val (.ref b117), .val (.int (own_am [d0, d1] [(own_cnt p4 (0 : Int32)), (own_cnt p4 (1 : Int32)), (own_cnt p4 (2 : Int32)), (own_cnt p4 (3 : Int32)), (own_cnt p4 (4 : Int32)), (own_cnt p4 (5 : Int32)), (own_cnt p4 (6 : Int32))])), .val (.int ex), .unset, .unset] [(.int (6 : Int32)), (.ref b102)])) (fun t k => ?_) ?_
      · show Steps p.tables e below (T137.setTop (mkF m 316 #[.val (.int p0), .val (.int p1), .val (.int p2), .val (.int p3), .val (.int p4), .val (.int (2 : Int32)), .val (.int d0), .val (.int d1), .val (.int d2), .val (.ref b102), .val (.ref b117), .val (.int (own_am [d0, d1] [(own_cnt p4 (0 : Int32)), (own_cnt p4 (1 : Int32)), (own_cnt p4 (2 : Int32)), (own_cnt p4 (3 : Int32)), (own_cnt p4 (4 : Int32)), (own_cnt p4 (5 : Int32)), (own_cnt p4 (6 : Int32))])), .val (.int ex), .unset, .unset] [(.int (own_cnt p4 (5 : Int32))), (.int (own_cnt p4 (5 : Int32)))])) t
        refine XS.icmpNo X137.here hx rfl (hb hby at_316) rfl (teq (rfl : (own_cnt p4 (5 : Int32)) = (own_cnt p4 (5 : Int32)))).2 ?_
        refine XS.aload X137.here hx rfl (hb hby at_319) rfl rfl ?_
        refine XS.bipush X137.here hx rfl (hb hby at_321) ?_
        exact k
      obtain ⟨cl138, Ar138, -, S138, M138, Ha138, G138⟩ := id f126
      have hin138 : ¬ ((6 : Int32) < 0 ∨ cl138.slots.size ≤ ((6 : Int32)).toNatClampNeg) := inb_of S138 ⟨by decide, by decide⟩
      have hat138 : cl138.slots[((6 : Int32)).toNatClampNeg]? = some (.int (own_cnt p4 (6 : Int32))) := Has.at Ha138 hin138 rfl
      refine own_go (B := T137.setTop (mkF m 324 #[.val (.int p0), .val (.int p1), .val (.int p2), .val (.int p3), .val (.int p4), .val (.int (2 : Int32)), .val (.int d0), .val (.int d1), .val (.int d2), .val (.ref b102), .val (.ref b117), .val (.int (own_am [d0, d1] [(own_cnt p4 (0 : Int32)), (own_cnt p4 (1 : Int32)), (own_cnt p4 (2 : Int32)), (own_cnt p4 (3 : Int32)), (own_cnt p4 (4 : Int32)), (own_cnt p4 (5 : Int32)), (own_cnt p4 (6 : Int32))])), .val (.int ex), .unset, .unset] [(.int (own_cnt p4 (6 : Int32)))])) (fun t k => ?_) ?_
      · exact X137.iaload hx (j := (6 : Int32)) (v := (.int (own_cnt p4 (6 : Int32)))) (by rw [e137]; exact Ar138.1) (State.isArrayOf_alike hZ.alike Ar138.2.1) Ar138.2.2 hin138 hat138 (g := (mkF m 323 #[.val (.int p0), .val (.int p1), .val (.int p2), .val (.int p3), .val (.int p4), .val (.int (2 : Int32)), .val (.int d0), .val (.int d1), .val (.int d2), .val (.ref b102), .val (.ref b117), .val (.int (own_am [d0, d1] [(own_cnt p4 (0 : Int32)), (own_cnt p4 (1 : Int32)), (own_cnt p4 (2 : Int32)), (own_cnt p4 (3 : Int32)), (own_cnt p4 (4 : Int32)), (own_cnt p4 (5 : Int32)), (own_cnt p4 (6 : Int32))])), .val (.int ex), .unset, .unset] [(.int (6 : Int32)), (.ref b102)])) rfl rfl (hb hby at_323) _ k
      refine own_go (B := T137.setTop (mkF m 328 #[.val (.int p0), .val (.int p1), .val (.int p2), .val (.int p3), .val (.int p4), .val (.int (2 : Int32)), .val (.int d0), .val (.int d1), .val (.int d2), .val (.ref b102), .val (.ref b117), .val (.int (own_am [d0, d1] [(own_cnt p4 (0 : Int32)), (own_cnt p4 (1 : Int32)), (own_cnt p4 (2 : Int32)), (own_cnt p4 (3 : Int32)), (own_cnt p4 (4 : Int32)), (own_cnt p4 (5 : Int32)), (own_cnt p4 (6 : Int32))])), .val (.int ex), .unset, .unset] [(.int (6 : Int32)), (.int p4), (.int (own_cnt p4 (6 : Int32)))])) (fun t k => ?_) ?_
      · show Steps p.tables e below (T137.setTop (mkF m 324 #[.val (.int p0), .val (.int p1), .val (.int p2), .val (.int p3), .val (.int p4), .val (.int (2 : Int32)), .val (.int d0), .val (.int d1), .val (.int d2), .val (.ref b102), .val (.ref b117), .val (.int (own_am [d0, d1] [(own_cnt p4 (0 : Int32)), (own_cnt p4 (1 : Int32)), (own_cnt p4 (2 : Int32)), (own_cnt p4 (3 : Int32)), (own_cnt p4 (4 : Int32)), (own_cnt p4 (5 : Int32)), (own_cnt p4 (6 : Int32))])), .val (.int ex), .unset, .unset] [(.int (own_cnt p4 (6 : Int32)))])) t
        refine XS.iload X137.here hx rfl (hb hby at_324) rfl ?_
        refine XS.bipush X137.here hx rfl (hb hby at_326) ?_
        exact k
      obtain ⟨_, _, ⟨T139, L139, k139, n139⟩, -, X139, ⟨Lc139, hQ139, l139, y139, z139⟩, st139⟩ := Jvm.LawKit.callS X137 hx (y := (⟨"com/example/rollhaus/rollhaus/dice/FacesAmongPinLaw", "cnt", "(II)I"⟩ : MethodName)) hown (mvT hZ (hw _ (List.mem_of_getElem? (i := 1) rfl))) (mvT hZ (hw _ (List.mem_of_getElem? (i := 2) rfl))) (mvT hZ (hw _ (List.mem_of_getElem? (i := 3) rfl))) (mvT hZ (hw _ (List.mem_of_getElem? (i := 4) rfl))) (by decide) (backOf (W := 1) (rm1 l Z a0 hw [] p4 (6 : Int32)  T121.heap n0 (Nat.le_trans Z0 K121.1) ) hZ (hw _ (List.mem_of_getElem? (i := 4) rfl)) (hw _ (List.mem_of_getElem? (i := 3) rfl)) (by decide) (by decide)) (g := (mkF m 328 #[.val (.int p0), .val (.int p1), .val (.int p2), .val (.int p3), .val (.int p4), .val (.int (2 : Int32)), .val (.int d0), .val (.int d1), .val (.int d2), .val (.ref b102), .val (.ref b117), .val (.int (own_am [d0, d1] [(own_cnt p4 (0 : Int32)), (own_cnt p4 (1 : Int32)), (own_cnt p4 (2 : Int32)), (own_cnt p4 (3 : Int32)), (own_cnt p4 (4 : Int32)), (own_cnt p4 (5 : Int32)), (own_cnt p4 (6 : Int32))])), .val (.int ex), .unset, .unset] [(.int (6 : Int32)), (.int p4), (.int (own_cnt p4 (6 : Int32)))])) rfl (by rw [hml]; rfl) (argsL := [(.int p4), (.int (6 : Int32))]) (rest := [(.int (own_cnt p4 (6 : Int32)))]) (lenOf pd0_0 rfl) rfl (by show 2 * 0 + _ ≤ _; exact Nat.le_of_eq rfl) (hb hby at_328) (fun _ _ => ⟨rfl, e137, (by decide : 3 + 0 ≤ _), (by decide : 16 + 0 ≤ _)⟩)
      dsimp only [Pt.U, Pt.locs, Pt.cells, Pt.slots] at X139 l139 y139 z139 st139 hQ139
      subst y139 z139
      have X139 : Stand p l e room_1 s m #[(.int p0), (.int p1), (.int p2), (.int p3), (.int p4)] below meth c T139 _ 3 16 := X139
      obtain ⟨rfl, N139q, e139⟩ := hQ139
      have N139 : Fr n0 L139 := by rw [l139]; exact Fr.app N137 N139q
      refine own_go (st139) ?_
      show own_Fin p.tables e below (T139.setTop (mkF m 331 #[.val (.int p0), .val (.int p1), .val (.int p2), .val (.int p3), .val (.int p4), .val (.int (2 : Int32)), .val (.int d0), .val (.int d1), .val (.int d2), .val (.ref b102), .val (.ref b117), .val (.int (own_am [d0, d1] [(own_cnt p4 (0 : Int32)), (own_cnt p4 (1 : Int32)), (own_cnt p4 (2 : Int32)), (own_cnt p4 (3 : Int32)), (own_cnt p4 (4 : Int32)), (own_cnt p4 (5 : Int32)), (own_cnt p4 (6 : Int32))])), .val (.int ex), .unset, .unset] [(.int (own_cnt p4 (6 : Int32))), (.int (own_cnt p4 (6 : Int32)))])) _
      refine own_go (B := T139.setTop (mkF m 343 #[.val (.int p0), .val (.int p1), .val (.int p2), .val (.int p3), .val (.int p4), .val (.int (2 : Int32)), .val (.int d0), .val (.int d1), .val (.int d2), .val (.ref b102), .val (.ref b117), .val (.int (own_am [d0, d1] [(own_cnt p4 (0 : Int32)), (own_cnt p4 (1 : Int32)), (own_cnt p4 (2 : Int32)), (own_cnt p4 (3 : Int32)), (own_cnt p4 (4 : Int32)), (own_cnt p4 (5 : Int32)), (own_cnt p4 (6 : Int32))])), .val (.int ex), .val (.int (1 : Int32)), .unset] [(.ref b117)])) (fun t k => ?_) ?_
      · show Steps p.tables e below (T139.setTop (mkF m 331 #[.val (.int p0), .val (.int p1), .val (.int p2), .val (.int p3), .val (.int p4), .val (.int (2 : Int32)), .val (.int d0), .val (.int d1), .val (.int d2), .val (.ref b102), .val (.ref b117), .val (.int (own_am [d0, d1] [(own_cnt p4 (0 : Int32)), (own_cnt p4 (1 : Int32)), (own_cnt p4 (2 : Int32)), (own_cnt p4 (3 : Int32)), (own_cnt p4 (4 : Int32)), (own_cnt p4 (5 : Int32)), (own_cnt p4 (6 : Int32))])), .val (.int ex), .unset, .unset] [(.int (own_cnt p4 (6 : Int32))), (.int (own_cnt p4 (6 : Int32)))])) t
        refine XS.icmpNo X139.here hx rfl (hb hby at_331) rfl (teq (rfl : (own_cnt p4 (6 : Int32)) = (own_cnt p4 (6 : Int32)))).2 ?_
        refine XS.iconst X139.here hx rfl (hb hby at_334) ?_
        refine XS.goto X139.here hx rfl (pc0 := 335) (pc' := 339) rfl (hb hby at_335) (by decide) (by decide) ?_
        refine XS.istore X139.here hx rfl (hb hby at_339) rfl (l' := #[.val (.int p0), .val (.int p1), .val (.int p2), .val (.int p3), .val (.int p4), .val (.int (2 : Int32)), .val (.int d0), .val (.int d1), .val (.int d2), .val (.ref b102), .val (.ref b117), .val (.int (own_am [d0, d1] [(own_cnt p4 (0 : Int32)), (own_cnt p4 (1 : Int32)), (own_cnt p4 (2 : Int32)), (own_cnt p4 (3 : Int32)), (own_cnt p4 (4 : Int32)), (own_cnt p4 (5 : Int32)), (own_cnt p4 (6 : Int32))])), .val (.int ex), .val (.int (1 : Int32)), .unset]) rfl ?_
        show Steps p.tables e below (T139.setTop (mkF m 341 #[.val (.int p0), .val (.int p1), .val (.int p2), .val (.int p3), .val (.int p4), .val (.int (2 : Int32)), .val (.int d0), .val (.int d1), .val (.int d2), .val (.ref b102), .val (.ref b117), .val (.int (own_am [d0, d1] [(own_cnt p4 (0 : Int32)), (own_cnt p4 (1 : Int32)), (own_cnt p4 (2 : Int32)), (own_cnt p4 (3 : Int32)), (own_cnt p4 (4 : Int32)), (own_cnt p4 (5 : Int32)), (own_cnt p4 (6 : Int32))])), .val (.int ex), .val (.int (1 : Int32)), .unset] [])) t
        refine XS.aload X139.here hx rfl (hb hby at_341) rfl rfl ?_
        exact k
      have f141 := (V120.keep Kq121 nin0)
      obtain ⟨cl140, Ar140, -, S140, M140, -, -⟩ := id f141
      refine own_go (B := T139.setTop (mkF m 344 #[.val (.int p0), .val (.int p1), .val (.int p2), .val (.int p3), .val (.int p4), .val (.int (2 : Int32)), .val (.int d0), .val (.int d1), .val (.int d2), .val (.ref b102), .val (.ref b117), .val (.int (own_am [d0, d1] [(own_cnt p4 (0 : Int32)), (own_cnt p4 (1 : Int32)), (own_cnt p4 (2 : Int32)), (own_cnt p4 (3 : Int32)), (own_cnt p4 (4 : Int32)), (own_cnt p4 (5 : Int32)), (own_cnt p4 (6 : Int32))])), .val (.int ex), .val (.int (1 : Int32)), .unset] [(.int (2 : Int32))])) (fun t k => ?_) ?_
      · refine X139.arraylength hx (by rw [e139]; exact Ar140.1) (State.isArrayOf_alike hZ.alike Ar140.2.1) (g := (mkF m 343 #[.val (.int p0), .val (.int p1), .val (.int p2), .val (.int p3), .val (.int p4), .val (.int (2 : Int32)), .val (.int d0), .val (.int d1), .val (.int d2), .val (.ref b102), .val (.ref b117), .val (.int (own_am [d0, d1] [(own_cnt p4 (0 : Int32)), (own_cnt p4 (1 : Int32)), (own_cnt p4 (2 : Int32)), (own_cnt p4 (3 : Int32)), (own_cnt p4 (4 : Int32)), (own_cnt p4 (5 : Int32)), (own_cnt p4 (6 : Int32))])), .val (.int ex), .val (.int (1 : Int32)), .unset] [(.ref b117)])) rfl rfl (hb hby at_343) _ ?_
        rw [len_of S140 M140]
        exact k
      refine own_go (B := T139.setTop (mkF m 358 #[.val (.int p0), .val (.int p1), .val (.int p2), .val (.int p3), .val (.int p4), .val (.int (2 : Int32)), .val (.int d0), .val (.int d1), .val (.int d2), .val (.ref b102), .val (.ref b117), .val (.int (own_am [d0, d1] [(own_cnt p4 (0 : Int32)), (own_cnt p4 (1 : Int32)), (own_cnt p4 (2 : Int32)), (own_cnt p4 (3 : Int32)), (own_cnt p4 (4 : Int32)), (own_cnt p4 (5 : Int32)), (own_cnt p4 (6 : Int32))])), .val (.int ex), .val (.int (1 : Int32)), .unset] [(.int (0 : Int32)), (.ref b117)])) (fun t k => ?_) ?_
      · show Steps p.tables e below (T139.setTop (mkF m 344 #[.val (.int p0), .val (.int p1), .val (.int p2), .val (.int p3), .val (.int p4), .val (.int (2 : Int32)), .val (.int d0), .val (.int d1), .val (.int d2), .val (.ref b102), .val (.ref b117), .val (.int (own_am [d0, d1] [(own_cnt p4 (0 : Int32)), (own_cnt p4 (1 : Int32)), (own_cnt p4 (2 : Int32)), (own_cnt p4 (3 : Int32)), (own_cnt p4 (4 : Int32)), (own_cnt p4 (5 : Int32)), (own_cnt p4 (6 : Int32))])), .val (.int ex), .val (.int (1 : Int32)), .unset] [(.int (2 : Int32))])) t
        refine XS.iload X139.here hx rfl (hb hby at_344) rfl ?_
        refine XS.icmpNo X139.here hx rfl (hb hby at_346) rfl (teq (rfl : (2 : Int32) = (2 : Int32))).2 ?_
        refine XS.iload X139.here hx rfl (hb hby at_349) rfl ?_
        refine XS.iconst X139.here hx rfl (hb hby at_351) ?_
        show Steps p.tables e below (T139.setTop (mkF m 352 #[.val (.int p0), .val (.int p1), .val (.int p2), .val (.int p3), .val (.int p4), .val (.int (2 : Int32)), .val (.int d0), .val (.int d1), .val (.int d2), .val (.ref b102), .val (.ref b117), .val (.int (own_am [d0, d1] [(own_cnt p4 (0 : Int32)), (own_cnt p4 (1 : Int32)), (own_cnt p4 (2 : Int32)), (own_cnt p4 (3 : Int32)), (own_cnt p4 (4 : Int32)), (own_cnt p4 (5 : Int32)), (own_cnt p4 (6 : Int32))])), .val (.int ex), .val (.int (1 : Int32)), .unset] [(.int (1 : Int32)), (.int (2 : Int32))])) t
        refine XS.icmpNo X139.here hx rfl (hb hby at_352) rfl (flt (by decide : ¬ ((2 : Int32) < (1 : Int32)))).1 ?_
        refine XS.aload X139.here hx rfl (hb hby at_355) rfl rfl ?_
        refine XS.iconst X139.here hx rfl (hb hby at_357) ?_
        exact k
      obtain ⟨cl142, Ar142, -, S142, M142, Ha142, G142⟩ := id f141
      have hin142 : ¬ ((0 : Int32) < 0 ∨ cl142.slots.size ≤ ((0 : Int32)).toNatClampNeg) := inb_of S142 ⟨by decide, by decide⟩
      have hat142 : cl142.slots[((0 : Int32)).toNatClampNeg]? = some (.int d0) := Has.at Ha142 hin142 rfl
      refine own_go (B := T139.setTop (mkF m 359 #[.val (.int p0), .val (.int p1), .val (.int p2), .val (.int p3), .val (.int p4), .val (.int (2 : Int32)), .val (.int d0), .val (.int d1), .val (.int d2), .val (.ref b102), .val (.ref b117), .val (.int (own_am [d0, d1] [(own_cnt p4 (0 : Int32)), (own_cnt p4 (1 : Int32)), (own_cnt p4 (2 : Int32)), (own_cnt p4 (3 : Int32)), (own_cnt p4 (4 : Int32)), (own_cnt p4 (5 : Int32)), (own_cnt p4 (6 : Int32))])), .val (.int ex), .val (.int (1 : Int32)), .unset] [(.int d0)])) (fun t k => ?_) ?_
      · exact X139.iaload hx (j := (0 : Int32)) (v := (.int d0)) (by rw [e139]; exact Ar142.1) (State.isArrayOf_alike hZ.alike Ar142.2.1) Ar142.2.2 hin142 hat142 (g := (mkF m 358 #[.val (.int p0), .val (.int p1), .val (.int p2), .val (.int p3), .val (.int p4), .val (.int (2 : Int32)), .val (.int d0), .val (.int d1), .val (.int d2), .val (.ref b102), .val (.ref b117), .val (.int (own_am [d0, d1] [(own_cnt p4 (0 : Int32)), (own_cnt p4 (1 : Int32)), (own_cnt p4 (2 : Int32)), (own_cnt p4 (3 : Int32)), (own_cnt p4 (4 : Int32)), (own_cnt p4 (5 : Int32)), (own_cnt p4 (6 : Int32))])), .val (.int ex), .val (.int (1 : Int32)), .unset] [(.int (0 : Int32)), (.ref b117)])) rfl rfl (hb hby at_358) _ k
      refine own_go (B := T139.setTop (mkF m 373 #[.val (.int p0), .val (.int p1), .val (.int p2), .val (.int p3), .val (.int p4), .val (.int (2 : Int32)), .val (.int d0), .val (.int d1), .val (.int d2), .val (.ref b102), .val (.ref b117), .val (.int (own_am [d0, d1] [(own_cnt p4 (0 : Int32)), (own_cnt p4 (1 : Int32)), (own_cnt p4 (2 : Int32)), (own_cnt p4 (3 : Int32)), (own_cnt p4 (4 : Int32)), (own_cnt p4 (5 : Int32)), (own_cnt p4 (6 : Int32))])), .val (.int ex), .val (.int (1 : Int32)), .unset] [(.int (1 : Int32)), (.ref b117)])) (fun t k => ?_) ?_
      · show Steps p.tables e below (T139.setTop (mkF m 359 #[.val (.int p0), .val (.int p1), .val (.int p2), .val (.int p3), .val (.int p4), .val (.int (2 : Int32)), .val (.int d0), .val (.int d1), .val (.int d2), .val (.ref b102), .val (.ref b117), .val (.int (own_am [d0, d1] [(own_cnt p4 (0 : Int32)), (own_cnt p4 (1 : Int32)), (own_cnt p4 (2 : Int32)), (own_cnt p4 (3 : Int32)), (own_cnt p4 (4 : Int32)), (own_cnt p4 (5 : Int32)), (own_cnt p4 (6 : Int32))])), .val (.int ex), .val (.int (1 : Int32)), .unset] [(.int d0)])) t
        refine XS.iload X139.here hx rfl (hb hby at_359) rfl ?_
        refine XS.icmpNo X139.here hx rfl (hb hby at_361) rfl (teq (rfl : d0 = d0)).2 ?_
        refine XS.iload X139.here hx rfl (hb hby at_364) rfl ?_
        refine XS.iconst X139.here hx rfl (hb hby at_366) ?_
        show Steps p.tables e below (T139.setTop (mkF m 367 #[.val (.int p0), .val (.int p1), .val (.int p2), .val (.int p3), .val (.int p4), .val (.int (2 : Int32)), .val (.int d0), .val (.int d1), .val (.int d2), .val (.ref b102), .val (.ref b117), .val (.int (own_am [d0, d1] [(own_cnt p4 (0 : Int32)), (own_cnt p4 (1 : Int32)), (own_cnt p4 (2 : Int32)), (own_cnt p4 (3 : Int32)), (own_cnt p4 (4 : Int32)), (own_cnt p4 (5 : Int32)), (own_cnt p4 (6 : Int32))])), .val (.int ex), .val (.int (1 : Int32)), .unset] [(.int (2 : Int32)), (.int (2 : Int32))])) t
        refine XS.icmpNo X139.here hx rfl (hb hby at_367) rfl (flt (by decide : ¬ ((2 : Int32) < (2 : Int32)))).1 ?_
        refine XS.aload X139.here hx rfl (hb hby at_370) rfl rfl ?_
        refine XS.iconst X139.here hx rfl (hb hby at_372) ?_
        exact k
      obtain ⟨cl143, Ar143, -, S143, M143, Ha143, G143⟩ := id f141
      have hin143 : ¬ ((1 : Int32) < 0 ∨ cl143.slots.size ≤ ((1 : Int32)).toNatClampNeg) := inb_of S143 ⟨by decide, by decide⟩
      have hat143 : cl143.slots[((1 : Int32)).toNatClampNeg]? = some (.int d1) := Has.at Ha143 hin143 rfl
      refine own_go (B := T139.setTop (mkF m 374 #[.val (.int p0), .val (.int p1), .val (.int p2), .val (.int p3), .val (.int p4), .val (.int (2 : Int32)), .val (.int d0), .val (.int d1), .val (.int d2), .val (.ref b102), .val (.ref b117), .val (.int (own_am [d0, d1] [(own_cnt p4 (0 : Int32)), (own_cnt p4 (1 : Int32)), (own_cnt p4 (2 : Int32)), (own_cnt p4 (3 : Int32)), (own_cnt p4 (4 : Int32)), (own_cnt p4 (5 : Int32)), (own_cnt p4 (6 : Int32))])), .val (.int ex), .val (.int (1 : Int32)), .unset] [(.int d1)])) (fun t k => ?_) ?_
      · exact X139.iaload hx (j := (1 : Int32)) (v := (.int d1)) (by rw [e139]; exact Ar143.1) (State.isArrayOf_alike hZ.alike Ar143.2.1) Ar143.2.2 hin143 hat143 (g := (mkF m 373 #[.val (.int p0), .val (.int p1), .val (.int p2), .val (.int p3), .val (.int p4), .val (.int (2 : Int32)), .val (.int d0), .val (.int d1), .val (.int d2), .val (.ref b102), .val (.ref b117), .val (.int (own_am [d0, d1] [(own_cnt p4 (0 : Int32)), (own_cnt p4 (1 : Int32)), (own_cnt p4 (2 : Int32)), (own_cnt p4 (3 : Int32)), (own_cnt p4 (4 : Int32)), (own_cnt p4 (5 : Int32)), (own_cnt p4 (6 : Int32))])), .val (.int ex), .val (.int (1 : Int32)), .unset] [(.int (1 : Int32)), (.ref b117)])) rfl rfl (hb hby at_373) _ k
      refine own_go (B := T139.setTop (mkF m 405 #[.val (.int p0), .val (.int p1), .val (.int p2), .val (.int p3), .val (.int p4), .val (.int (2 : Int32)), .val (.int d0), .val (.int d1), .val (.int d2), .val (.ref b102), .val (.ref b117), .val (.int (own_am [d0, d1] [(own_cnt p4 (0 : Int32)), (own_cnt p4 (1 : Int32)), (own_cnt p4 (2 : Int32)), (own_cnt p4 (3 : Int32)), (own_cnt p4 (4 : Int32)), (own_cnt p4 (5 : Int32)), (own_cnt p4 (6 : Int32))])), .val (.int ex), .val (.int (1 : Int32)), .val (.int (1 : Int32))] [(.int ex), (.int (own_am [d0, d1] [(own_cnt p4 (0 : Int32)), (own_cnt p4 (1 : Int32)), (own_cnt p4 (2 : Int32)), (own_cnt p4 (3 : Int32)), (own_cnt p4 (4 : Int32)), (own_cnt p4 (5 : Int32)), (own_cnt p4 (6 : Int32))]))])) (fun t k => ?_) ?_
      · show Steps p.tables e below (T139.setTop (mkF m 374 #[.val (.int p0), .val (.int p1), .val (.int p2), .val (.int p3), .val (.int p4), .val (.int (2 : Int32)), .val (.int d0), .val (.int d1), .val (.int d2), .val (.ref b102), .val (.ref b117), .val (.int (own_am [d0, d1] [(own_cnt p4 (0 : Int32)), (own_cnt p4 (1 : Int32)), (own_cnt p4 (2 : Int32)), (own_cnt p4 (3 : Int32)), (own_cnt p4 (4 : Int32)), (own_cnt p4 (5 : Int32)), (own_cnt p4 (6 : Int32))])), .val (.int ex), .val (.int (1 : Int32)), .unset] [(.int d1)])) t
        refine XS.iload X139.here hx rfl (hb hby at_374) rfl ?_
        refine XS.icmpNo X139.here hx rfl (hb hby at_376) rfl (teq (rfl : d1 = d1)).2 ?_
        refine XS.iload X139.here hx rfl (hb hby at_379) rfl ?_
        refine XS.iconst X139.here hx rfl (hb hby at_381) ?_
        show Steps p.tables e below (T139.setTop (mkF m 382 #[.val (.int p0), .val (.int p1), .val (.int p2), .val (.int p3), .val (.int p4), .val (.int (2 : Int32)), .val (.int d0), .val (.int d1), .val (.int d2), .val (.ref b102), .val (.ref b117), .val (.int (own_am [d0, d1] [(own_cnt p4 (0 : Int32)), (own_cnt p4 (1 : Int32)), (own_cnt p4 (2 : Int32)), (own_cnt p4 (3 : Int32)), (own_cnt p4 (4 : Int32)), (own_cnt p4 (5 : Int32)), (own_cnt p4 (6 : Int32))])), .val (.int ex), .val (.int (1 : Int32)), .unset] [(.int (3 : Int32)), (.int (2 : Int32))])) t
        refine XS.icmpYes X139.here hx rfl (pc0 := 382) (pc' := 394) rfl (hb hby at_382) rfl (tlt (by decide : (2 : Int32) < (3 : Int32))).1 (by decide) (by decide) ?_
        refine XS.iconst X139.here hx rfl (hb hby at_394) ?_
        refine XS.goto X139.here hx rfl (pc0 := 395) (pc' := 399) rfl (hb hby at_395) (by decide) (by decide) ?_
        refine XS.istore X139.here hx rfl (hb hby at_399) rfl (l' := #[.val (.int p0), .val (.int p1), .val (.int p2), .val (.int p3), .val (.int p4), .val (.int (2 : Int32)), .val (.int d0), .val (.int d1), .val (.int d2), .val (.ref b102), .val (.ref b117), .val (.int (own_am [d0, d1] [(own_cnt p4 (0 : Int32)), (own_cnt p4 (1 : Int32)), (own_cnt p4 (2 : Int32)), (own_cnt p4 (3 : Int32)), (own_cnt p4 (4 : Int32)), (own_cnt p4 (5 : Int32)), (own_cnt p4 (6 : Int32))])), .val (.int ex), .val (.int (1 : Int32)), .val (.int (1 : Int32))]) rfl ?_
        show Steps p.tables e below (T139.setTop (mkF m 401 #[.val (.int p0), .val (.int p1), .val (.int p2), .val (.int p3), .val (.int p4), .val (.int (2 : Int32)), .val (.int d0), .val (.int d1), .val (.int d2), .val (.ref b102), .val (.ref b117), .val (.int (own_am [d0, d1] [(own_cnt p4 (0 : Int32)), (own_cnt p4 (1 : Int32)), (own_cnt p4 (2 : Int32)), (own_cnt p4 (3 : Int32)), (own_cnt p4 (4 : Int32)), (own_cnt p4 (5 : Int32)), (own_cnt p4 (6 : Int32))])), .val (.int ex), .val (.int (1 : Int32)), .val (.int (1 : Int32))] [])) t
        refine XS.iload X139.here hx rfl (hb hby at_401) rfl ?_
        refine XS.iload X139.here hx rfl (hb hby at_403) rfl ?_
        exact k
      have hc144 : (own_am [d0, d1] [(own_cnt p4 (0 : Int32)), (own_cnt p4 (1 : Int32)), (own_cnt p4 (2 : Int32)), (own_cnt p4 (3 : Int32)), (own_cnt p4 (4 : Int32)), (own_cnt p4 (5 : Int32)), (own_cnt p4 (6 : Int32))]) = ex := hex
      refine own_go (B := T139.setTop (mkF m 423 #[.val (.int p0), .val (.int p1), .val (.int p2), .val (.int p3), .val (.int p4), .val (.int (2 : Int32)), .val (.int d0), .val (.int d1), .val (.int d2), .val (.ref b102), .val (.ref b117), .val (.int (own_am [d0, d1] [(own_cnt p4 (0 : Int32)), (own_cnt p4 (1 : Int32)), (own_cnt p4 (2 : Int32)), (own_cnt p4 (3 : Int32)), (own_cnt p4 (4 : Int32)), (own_cnt p4 (5 : Int32)), (own_cnt p4 (6 : Int32))])), .val (.int ex), .val (.int (1 : Int32)), .val (.int (1 : Int32))] [(.int (1 : Int32))])) (fun t k => ?_) ?_
      · show Steps p.tables e below (T139.setTop (mkF m 405 #[.val (.int p0), .val (.int p1), .val (.int p2), .val (.int p3), .val (.int p4), .val (.int (2 : Int32)), .val (.int d0), .val (.int d1), .val (.int d2), .val (.ref b102), .val (.ref b117), .val (.int (own_am [d0, d1] [(own_cnt p4 (0 : Int32)), (own_cnt p4 (1 : Int32)), (own_cnt p4 (2 : Int32)), (own_cnt p4 (3 : Int32)), (own_cnt p4 (4 : Int32)), (own_cnt p4 (5 : Int32)), (own_cnt p4 (6 : Int32))])), .val (.int ex), .val (.int (1 : Int32)), .val (.int (1 : Int32))] [(.int ex), (.int (own_am [d0, d1] [(own_cnt p4 (0 : Int32)), (own_cnt p4 (1 : Int32)), (own_cnt p4 (2 : Int32)), (own_cnt p4 (3 : Int32)), (own_cnt p4 (4 : Int32)), (own_cnt p4 (5 : Int32)), (own_cnt p4 (6 : Int32))]))])) t
        refine XS.icmpNo X139.here hx rfl (hb hby at_405) rfl (teq hc144).2 ?_
        refine XS.iload X139.here hx rfl (hb hby at_408) rfl ?_
        refine XS.ifNo X139.here hx rfl (hb hby at_410) rfl ((if0 _ _).trans (feq (by decide : ¬ ((1 : Int32) = (0 : Int32)))).1) ?_
        refine XS.iload X139.here hx rfl (hb hby at_413) rfl ?_
        show Steps p.tables e below (T139.setTop (mkF m 415 #[.val (.int p0), .val (.int p1), .val (.int p2), .val (.int p3), .val (.int p4), .val (.int (2 : Int32)), .val (.int d0), .val (.int d1), .val (.int d2), .val (.ref b102), .val (.ref b117), .val (.int (own_am [d0, d1] [(own_cnt p4 (0 : Int32)), (own_cnt p4 (1 : Int32)), (own_cnt p4 (2 : Int32)), (own_cnt p4 (3 : Int32)), (own_cnt p4 (4 : Int32)), (own_cnt p4 (5 : Int32)), (own_cnt p4 (6 : Int32))])), .val (.int ex), .val (.int (1 : Int32)), .val (.int (1 : Int32))] [(.int (1 : Int32))])) t
        refine XS.ifNo X139.here hx rfl (hb hby at_415) rfl ((if0 _ _).trans (feq (by decide : ¬ ((1 : Int32) = (0 : Int32)))).1) ?_
        refine XS.iconst X139.here hx rfl (hb hby at_418) ?_
        refine XS.goto X139.here hx rfl (pc0 := 419) (pc' := 423) rfl (hb hby at_419) (by decide) (by decide) ?_
        exact k
      obtain ⟨fs, hr, hrun, hended, hW, hsame⟩ := X139.leave (v := some (.int (1 : Int32))) (fun h => by rw [Bd.returns] at h; cases h)
      refine ⟨_, _, ?_, hrun, hended, _, _, rfl, ?_, ⟨_, rfl⟩, hW, hsame.mono (by decide) (by decide)⟩
      · exact retOut X139 hx (t := .boolean) Bd.returns rfl (Or.inl ⟨rfl, by simp, _, rfl⟩) (hb hby at_423) hr
      · show Q0 Z p0 p1 p2 p3 p4 h0 n0 _ T139.heap _
        rw [e139]
        exact ⟨rfl, N139⟩
    by_cases hc146 : (own_fits (0 : Int32) (2 : Int32) d0 d1 d2 p4) = (0 : Int32)
    · skip
      refine own_go (B := T124.setTop (mkF m 239 #[.val (.int p0), .val (.int p1), .val (.int p2), .val (.int p3), .val (.int p4), .val (.int (2 : Int32)), .val (.int d0), .val (.int d1), .val (.int d2), .val (.ref b102), .val (.ref b117), .val (.int (own_am [d0, d1] [(own_cnt p4 (0 : Int32)), (own_cnt p4 (1 : Int32)), (own_cnt p4 (2 : Int32)), (own_cnt p4 (3 : Int32)), (own_cnt p4 (4 : Int32)), (own_cnt p4 (5 : Int32)), (own_cnt p4 (6 : Int32))])), .unset, .unset, .unset] [(.int (0 : Int32))])) (fun t k => ?_) ?_
      · show Steps p.tables e below (T124.setTop (mkF m 197 #[.val (.int p0), .val (.int p1), .val (.int p2), .val (.int p3), .val (.int p4), .val (.int (2 : Int32)), .val (.int d0), .val (.int d1), .val (.int d2), .val (.ref b102), .val (.ref b117), .val (.int (own_am [d0, d1] [(own_cnt p4 (0 : Int32)), (own_cnt p4 (1 : Int32)), (own_cnt p4 (2 : Int32)), (own_cnt p4 (3 : Int32)), (own_cnt p4 (4 : Int32)), (own_cnt p4 (5 : Int32)), (own_cnt p4 (6 : Int32))])), .unset, .unset, .unset] [(.int (own_fits (0 : Int32) (2 : Int32) d0 d1 d2 p4))])) t
        refine XS.ifYes X124.here hx rfl (pc0 := 197) (pc' := 238) rfl (hb hby at_197) rfl ((if0 _ _).trans (teq hc146).1) (by decide) (by decide) ?_
        refine XS.iconst X124.here hx rfl (hb hby at_238) ?_
        exact k
      exact joinJ _ _ X124 e124 N124 _ (by rw [own_law2 d0 d1 d2]; simp only [if_pos hc146])
    · skip
      refine own_go (B := T124.setTop (mkF m 211 #[.val (.int p0), .val (.int p1), .val (.int p2), .val (.int p3), .val (.int p4), .val (.int (2 : Int32)), .val (.int d0), .val (.int d1), .val (.int d2), .val (.ref b102), .val (.ref b117), .val (.int (own_am [d0, d1] [(own_cnt p4 (0 : Int32)), (own_cnt p4 (1 : Int32)), (own_cnt p4 (2 : Int32)), (own_cnt p4 (3 : Int32)), (own_cnt p4 (4 : Int32)), (own_cnt p4 (5 : Int32)), (own_cnt p4 (6 : Int32))])), .unset, .unset, .unset] [(.int p4), (.int d2), (.int d1), (.int d0), (.int (2 : Int32)), (.int (1 : Int32))])) (fun t k => ?_) ?_
      · show Steps p.tables e below (T124.setTop (mkF m 197 #[.val (.int p0), .val (.int p1), .val (.int p2), .val (.int p3), .val (.int p4), .val (.int (2 : Int32)), .val (.int d0), .val (.int d1), .val (.int d2), .val (.ref b102), .val (.ref b117), .val (.int (own_am [d0, d1] [(own_cnt p4 (0 : Int32)), (own_cnt p4 (1 : Int32)), (own_cnt p4 (2 : Int32)), (own_cnt p4 (3 : Int32)), (own_cnt p4 (4 : Int32)), (own_cnt p4 (5 : Int32)), (own_cnt p4 (6 : Int32))])), .unset, .unset, .unset] [(.int (own_fits (0 : Int32) (2 : Int32) d0 d1 d2 p4))])) t
        refine XS.ifNo X124.here hx rfl (hb hby at_197) rfl ((if0 _ _).trans (feq hc146).1) ?_
        refine XS.iconst X124.here hx rfl (hb hby at_200) ?_
        refine XS.iload X124.here hx rfl (hb hby at_201) rfl ?_
        refine XS.iload X124.here hx rfl (hb hby at_203) rfl ?_
        show Steps p.tables e below (T124.setTop (mkF m 205 #[.val (.int p0), .val (.int p1), .val (.int p2), .val (.int p3), .val (.int p4), .val (.int (2 : Int32)), .val (.int d0), .val (.int d1), .val (.int d2), .val (.ref b102), .val (.ref b117), .val (.int (own_am [d0, d1] [(own_cnt p4 (0 : Int32)), (own_cnt p4 (1 : Int32)), (own_cnt p4 (2 : Int32)), (own_cnt p4 (3 : Int32)), (own_cnt p4 (4 : Int32)), (own_cnt p4 (5 : Int32)), (own_cnt p4 (6 : Int32))])), .unset, .unset, .unset] [(.int d0), (.int (2 : Int32)), (.int (1 : Int32))])) t
        refine XS.iload X124.here hx rfl (hb hby at_205) rfl ?_
        refine XS.iload X124.here hx rfl (hb hby at_207) rfl ?_
        refine XS.iload X124.here hx rfl (hb hby at_209) rfl ?_
        exact k
      obtain ⟨_, _, ⟨T147, L147, k147, n147⟩, -, X147, ⟨Lc147, hQ147, l147, y147, z147⟩, st147⟩ := Jvm.LawKit.callS X124 hx (y := (⟨"com/example/rollhaus/rollhaus/dice/FacesAmongPinLaw", "fits", "(IIIIII)Z"⟩ : MethodName)) hown (mvT hZ (hw _ (List.mem_of_getElem? (i := 18) rfl))) (mvT hZ (hw _ (List.mem_of_getElem? (i := 19) rfl))) (mvT hZ (hw _ (List.mem_of_getElem? (i := 3) rfl))) (mvT hZ (hw _ (List.mem_of_getElem? (i := 20) rfl))) (by decide) (backOf (W := 0) (rm2 l Z a0 hw [] (1 : Int32) (2 : Int32) d0 d1 d2 p4  T121.heap n0 (Nat.le_trans Z0 K121.1) ) hZ (hw _ (List.mem_of_getElem? (i := 20) rfl)) (hw _ (List.mem_of_getElem? (i := 3) rfl)) (by decide) (by decide)) (g := (mkF m 211 #[.val (.int p0), .val (.int p1), .val (.int p2), .val (.int p3), .val (.int p4), .val (.int (2 : Int32)), .val (.int d0), .val (.int d1), .val (.int d2), .val (.ref b102), .val (.ref b117), .val (.int (own_am [d0, d1] [(own_cnt p4 (0 : Int32)), (own_cnt p4 (1 : Int32)), (own_cnt p4 (2 : Int32)), (own_cnt p4 (3 : Int32)), (own_cnt p4 (4 : Int32)), (own_cnt p4 (5 : Int32)), (own_cnt p4 (6 : Int32))])), .unset, .unset, .unset] [(.int p4), (.int d2), (.int d1), (.int d0), (.int (2 : Int32)), (.int (1 : Int32))])) rfl (by rw [hml]; rfl) (argsL := [(.int (1 : Int32)), (.int (2 : Int32)), (.int d0), (.int d1), (.int d2), (.int p4)]) (rest := []) (lenOf pd0_2 rfl) rfl (by show 2 * 0 + _ ≤ _; exact Nat.le_of_eq rfl) (hb hby at_211) (fun _ _ => ⟨rfl, e124, (by decide : 3 + 0 ≤ _), (by decide : 16 + 0 ≤ _)⟩)
      dsimp only [Pt.U, Pt.locs, Pt.cells, Pt.slots] at X147 l147 y147 z147 st147 hQ147
      subst y147 z147
      have X147 : Stand p l e room_1 s m #[(.int p0), (.int p1), (.int p2), (.int p3), (.int p4)] below meth c T147 _ 3 16 := X147
      obtain ⟨rfl, N147q, e147⟩ := hQ147
      have N147 : Fr n0 L147 := by rw [l147]; exact Fr.app N124 N147q
      refine own_go (st147) ?_
      show own_Fin p.tables e below (T147.setTop (mkF m 214 #[.val (.int p0), .val (.int p1), .val (.int p2), .val (.int p3), .val (.int p4), .val (.int (2 : Int32)), .val (.int d0), .val (.int d1), .val (.int d2), .val (.ref b102), .val (.ref b117), .val (.int (own_am [d0, d1] [(own_cnt p4 (0 : Int32)), (own_cnt p4 (1 : Int32)), (own_cnt p4 (2 : Int32)), (own_cnt p4 (3 : Int32)), (own_cnt p4 (4 : Int32)), (own_cnt p4 (5 : Int32)), (own_cnt p4 (6 : Int32))])), .unset, .unset, .unset] [(.int (own_fits (1 : Int32) (2 : Int32) d0 d1 d2 p4))])) _
      by_cases hc148 : (own_fits (1 : Int32) (2 : Int32) d0 d1 d2 p4) = (0 : Int32)
      · skip
        refine own_go (B := T147.setTop (mkF m 239 #[.val (.int p0), .val (.int p1), .val (.int p2), .val (.int p3), .val (.int p4), .val (.int (2 : Int32)), .val (.int d0), .val (.int d1), .val (.int d2), .val (.ref b102), .val (.ref b117), .val (.int (own_am [d0, d1] [(own_cnt p4 (0 : Int32)), (own_cnt p4 (1 : Int32)), (own_cnt p4 (2 : Int32)), (own_cnt p4 (3 : Int32)), (own_cnt p4 (4 : Int32)), (own_cnt p4 (5 : Int32)), (own_cnt p4 (6 : Int32))])), .unset, .unset, .unset] [(.int (0 : Int32))])) (fun t k => ?_) ?_
        · show Steps p.tables e below (T147.setTop (mkF m 214 #[.val (.int p0), .val (.int p1), .val (.int p2), .val (.int p3), .val (.int p4), .val (.int (2 : Int32)), .val (.int d0), .val (.int d1), .val (.int d2), .val (.ref b102), .val (.ref b117), .val (.int (own_am [d0, d1] [(own_cnt p4 (0 : Int32)), (own_cnt p4 (1 : Int32)), (own_cnt p4 (2 : Int32)), (own_cnt p4 (3 : Int32)), (own_cnt p4 (4 : Int32)), (own_cnt p4 (5 : Int32)), (own_cnt p4 (6 : Int32))])), .unset, .unset, .unset] [(.int (own_fits (1 : Int32) (2 : Int32) d0 d1 d2 p4))])) t
          refine XS.ifYes X147.here hx rfl (pc0 := 214) (pc' := 238) rfl (hb hby at_214) rfl ((if0 _ _).trans (teq hc148).1) (by decide) (by decide) ?_
          refine XS.iconst X147.here hx rfl (hb hby at_238) ?_
          exact k
        exact joinJ _ _ X147 e147 N147 _ (by rw [own_law2 d0 d1 d2]; simp only [if_neg hc146, if_pos hc148])
      · skip
        refine own_go (B := T147.setTop (mkF m 228 #[.val (.int p0), .val (.int p1), .val (.int p2), .val (.int p3), .val (.int p4), .val (.int (2 : Int32)), .val (.int d0), .val (.int d1), .val (.int d2), .val (.ref b102), .val (.ref b117), .val (.int (own_am [d0, d1] [(own_cnt p4 (0 : Int32)), (own_cnt p4 (1 : Int32)), (own_cnt p4 (2 : Int32)), (own_cnt p4 (3 : Int32)), (own_cnt p4 (4 : Int32)), (own_cnt p4 (5 : Int32)), (own_cnt p4 (6 : Int32))])), .unset, .unset, .unset] [(.int p4), (.int d2), (.int d1), (.int d0), (.int (2 : Int32)), (.int (2 : Int32))])) (fun t k => ?_) ?_
        · show Steps p.tables e below (T147.setTop (mkF m 214 #[.val (.int p0), .val (.int p1), .val (.int p2), .val (.int p3), .val (.int p4), .val (.int (2 : Int32)), .val (.int d0), .val (.int d1), .val (.int d2), .val (.ref b102), .val (.ref b117), .val (.int (own_am [d0, d1] [(own_cnt p4 (0 : Int32)), (own_cnt p4 (1 : Int32)), (own_cnt p4 (2 : Int32)), (own_cnt p4 (3 : Int32)), (own_cnt p4 (4 : Int32)), (own_cnt p4 (5 : Int32)), (own_cnt p4 (6 : Int32))])), .unset, .unset, .unset] [(.int (own_fits (1 : Int32) (2 : Int32) d0 d1 d2 p4))])) t
          refine XS.ifNo X147.here hx rfl (hb hby at_214) rfl ((if0 _ _).trans (feq hc148).1) ?_
          refine XS.iconst X147.here hx rfl (hb hby at_217) ?_
          refine XS.iload X147.here hx rfl (hb hby at_218) rfl ?_
          refine XS.iload X147.here hx rfl (hb hby at_220) rfl ?_
          show Steps p.tables e below (T147.setTop (mkF m 222 #[.val (.int p0), .val (.int p1), .val (.int p2), .val (.int p3), .val (.int p4), .val (.int (2 : Int32)), .val (.int d0), .val (.int d1), .val (.int d2), .val (.ref b102), .val (.ref b117), .val (.int (own_am [d0, d1] [(own_cnt p4 (0 : Int32)), (own_cnt p4 (1 : Int32)), (own_cnt p4 (2 : Int32)), (own_cnt p4 (3 : Int32)), (own_cnt p4 (4 : Int32)), (own_cnt p4 (5 : Int32)), (own_cnt p4 (6 : Int32))])), .unset, .unset, .unset] [(.int d0), (.int (2 : Int32)), (.int (2 : Int32))])) t
          refine XS.iload X147.here hx rfl (hb hby at_222) rfl ?_
          refine XS.iload X147.here hx rfl (hb hby at_224) rfl ?_
          refine XS.iload X147.here hx rfl (hb hby at_226) rfl ?_
          exact k
        obtain ⟨_, _, ⟨T149, L149, k149, n149⟩, -, X149, ⟨Lc149, hQ149, l149, y149, z149⟩, st149⟩ := Jvm.LawKit.callS X147 hx (y := (⟨"com/example/rollhaus/rollhaus/dice/FacesAmongPinLaw", "fits", "(IIIIII)Z"⟩ : MethodName)) hown (mvT hZ (hw _ (List.mem_of_getElem? (i := 18) rfl))) (mvT hZ (hw _ (List.mem_of_getElem? (i := 19) rfl))) (mvT hZ (hw _ (List.mem_of_getElem? (i := 3) rfl))) (mvT hZ (hw _ (List.mem_of_getElem? (i := 20) rfl))) (by decide) (backOf (W := 0) (rm2 l Z a0 hw [] (2 : Int32) (2 : Int32) d0 d1 d2 p4  T121.heap n0 (Nat.le_trans Z0 K121.1) ) hZ (hw _ (List.mem_of_getElem? (i := 20) rfl)) (hw _ (List.mem_of_getElem? (i := 3) rfl)) (by decide) (by decide)) (g := (mkF m 228 #[.val (.int p0), .val (.int p1), .val (.int p2), .val (.int p3), .val (.int p4), .val (.int (2 : Int32)), .val (.int d0), .val (.int d1), .val (.int d2), .val (.ref b102), .val (.ref b117), .val (.int (own_am [d0, d1] [(own_cnt p4 (0 : Int32)), (own_cnt p4 (1 : Int32)), (own_cnt p4 (2 : Int32)), (own_cnt p4 (3 : Int32)), (own_cnt p4 (4 : Int32)), (own_cnt p4 (5 : Int32)), (own_cnt p4 (6 : Int32))])), .unset, .unset, .unset] [(.int p4), (.int d2), (.int d1), (.int d0), (.int (2 : Int32)), (.int (2 : Int32))])) rfl (by rw [hml]; rfl) (argsL := [(.int (2 : Int32)), (.int (2 : Int32)), (.int d0), (.int d1), (.int d2), (.int p4)]) (rest := []) (lenOf pd0_2 rfl) rfl (by show 2 * 0 + _ ≤ _; exact Nat.le_of_eq rfl) (hb hby at_228) (fun _ _ => ⟨rfl, e147, (by decide : 3 + 0 ≤ _), (by decide : 16 + 0 ≤ _)⟩)
        dsimp only [Pt.U, Pt.locs, Pt.cells, Pt.slots] at X149 l149 y149 z149 st149 hQ149
        subst y149 z149
        have X149 : Stand p l e room_1 s m #[(.int p0), (.int p1), (.int p2), (.int p3), (.int p4)] below meth c T149 _ 3 16 := X149
        obtain ⟨rfl, N149q, e149⟩ := hQ149
        have N149 : Fr n0 L149 := by rw [l149]; exact Fr.app N147 N149q
        refine own_go (st149) ?_
        show own_Fin p.tables e below (T149.setTop (mkF m 231 #[.val (.int p0), .val (.int p1), .val (.int p2), .val (.int p3), .val (.int p4), .val (.int (2 : Int32)), .val (.int d0), .val (.int d1), .val (.int d2), .val (.ref b102), .val (.ref b117), .val (.int (own_am [d0, d1] [(own_cnt p4 (0 : Int32)), (own_cnt p4 (1 : Int32)), (own_cnt p4 (2 : Int32)), (own_cnt p4 (3 : Int32)), (own_cnt p4 (4 : Int32)), (own_cnt p4 (5 : Int32)), (own_cnt p4 (6 : Int32))])), .unset, .unset, .unset] [(.int (own_fits (2 : Int32) (2 : Int32) d0 d1 d2 p4))])) _
        by_cases hc150 : (own_fits (2 : Int32) (2 : Int32) d0 d1 d2 p4) = (0 : Int32)
        · skip
          refine own_go (B := T149.setTop (mkF m 239 #[.val (.int p0), .val (.int p1), .val (.int p2), .val (.int p3), .val (.int p4), .val (.int (2 : Int32)), .val (.int d0), .val (.int d1), .val (.int d2), .val (.ref b102), .val (.ref b117), .val (.int (own_am [d0, d1] [(own_cnt p4 (0 : Int32)), (own_cnt p4 (1 : Int32)), (own_cnt p4 (2 : Int32)), (own_cnt p4 (3 : Int32)), (own_cnt p4 (4 : Int32)), (own_cnt p4 (5 : Int32)), (own_cnt p4 (6 : Int32))])), .unset, .unset, .unset] [(.int (0 : Int32))])) (fun t k => ?_) ?_
          · show Steps p.tables e below (T149.setTop (mkF m 231 #[.val (.int p0), .val (.int p1), .val (.int p2), .val (.int p3), .val (.int p4), .val (.int (2 : Int32)), .val (.int d0), .val (.int d1), .val (.int d2), .val (.ref b102), .val (.ref b117), .val (.int (own_am [d0, d1] [(own_cnt p4 (0 : Int32)), (own_cnt p4 (1 : Int32)), (own_cnt p4 (2 : Int32)), (own_cnt p4 (3 : Int32)), (own_cnt p4 (4 : Int32)), (own_cnt p4 (5 : Int32)), (own_cnt p4 (6 : Int32))])), .unset, .unset, .unset] [(.int (own_fits (2 : Int32) (2 : Int32) d0 d1 d2 p4))])) t
            refine XS.ifYes X149.here hx rfl (pc0 := 231) (pc' := 238) rfl (hb hby at_231) rfl ((if0 _ _).trans (teq hc150).1) (by decide) (by decide) ?_
            refine XS.iconst X149.here hx rfl (hb hby at_238) ?_
            exact k
          exact joinJ _ _ X149 e149 N149 _ (by rw [own_law2 d0 d1 d2]; simp only [if_neg hc146, if_neg hc148, if_pos hc150])
        · skip
          refine own_go (B := T149.setTop (mkF m 239 #[.val (.int p0), .val (.int p1), .val (.int p2), .val (.int p3), .val (.int p4), .val (.int (2 : Int32)), .val (.int d0), .val (.int d1), .val (.int d2), .val (.ref b102), .val (.ref b117), .val (.int (own_am [d0, d1] [(own_cnt p4 (0 : Int32)), (own_cnt p4 (1 : Int32)), (own_cnt p4 (2 : Int32)), (own_cnt p4 (3 : Int32)), (own_cnt p4 (4 : Int32)), (own_cnt p4 (5 : Int32)), (own_cnt p4 (6 : Int32))])), .unset, .unset, .unset] [(.int (1 : Int32))])) (fun t k => ?_) ?_
          · show Steps p.tables e below (T149.setTop (mkF m 231 #[.val (.int p0), .val (.int p1), .val (.int p2), .val (.int p3), .val (.int p4), .val (.int (2 : Int32)), .val (.int d0), .val (.int d1), .val (.int d2), .val (.ref b102), .val (.ref b117), .val (.int (own_am [d0, d1] [(own_cnt p4 (0 : Int32)), (own_cnt p4 (1 : Int32)), (own_cnt p4 (2 : Int32)), (own_cnt p4 (3 : Int32)), (own_cnt p4 (4 : Int32)), (own_cnt p4 (5 : Int32)), (own_cnt p4 (6 : Int32))])), .unset, .unset, .unset] [(.int (own_fits (2 : Int32) (2 : Int32) d0 d1 d2 p4))])) t
            refine XS.ifNo X149.here hx rfl (hb hby at_231) rfl ((if0 _ _).trans (feq hc150).1) ?_
            refine XS.iconst X149.here hx rfl (hb hby at_234) ?_
            refine XS.goto X149.here hx rfl (pc0 := 235) (pc' := 239) rfl (hb hby at_235) (by decide) (by decide) ?_
            exact k
          exact joinJ _ _ X149 e149 N149 _ (by rw [own_law2 d0 d1 d2]; simp only [if_neg hc146, if_neg hc148, if_neg hc150])
  · skip
    refine own_go (B := s₁.setTop (mkF m 3 #[.val (.int p0), .val (.int p1), .val (.int p2), .val (.int p3), .val (.int p4), .unset, .unset, .unset, .unset, .unset, .unset, .unset, .unset, .unset, .unset] [(.int (3 : Int32))])) (fun t k => (congrArg (fun z => Steps p.tables e below (s₁.setTop (mkF m 3 #[.val (.int p0), .val (.int p1), .val (.int p2), .val (.int p3), .val (.int p4), .unset, .unset, .unset, .unset, .unset, .unset, .unset, .unset, .unset, .unset] [(.int z)])) t) (hn)).mpr k) ?_
    refine own_go (B := s₁.setTop (mkF m 8 #[.val (.int p0), .val (.int p1), .val (.int p2), .val (.int p3), .val (.int p4), .val (.int (3 : Int32)), .unset, .unset, .unset, .unset, .unset, .unset, .unset, .unset, .unset] [(.int (p0 &&& (4 : Int32)))])) (fun t k => ?_) ?_
    · show Steps p.tables e below (s₁.setTop (mkF m 3 #[.val (.int p0), .val (.int p1), .val (.int p2), .val (.int p3), .val (.int p4), .unset, .unset, .unset, .unset, .unset, .unset, .unset, .unset, .unset, .unset] [(.int (3 : Int32))])) t
      refine XS.istore X0.here hx rfl (hb hby at_3) rfl (l' := #[.val (.int p0), .val (.int p1), .val (.int p2), .val (.int p3), .val (.int p4), .val (.int (3 : Int32)), .unset, .unset, .unset, .unset, .unset, .unset, .unset, .unset, .unset]) rfl ?_
      refine XS.iloadN X0.here hx rfl (hb hby at_5) rfl ?_
      refine XS.iconst X0.here hx rfl (hb hby at_6) ?_
      refine XS.iand X0.here hx rfl (hb hby at_7) rfl ?_
      exact k
    refine own_go (B := s₁.setTop (mkF m 19 #[.val (.int p0), .val (.int p1), .val (.int p2), .val (.int p3), .val (.int p4), .val (.int (3 : Int32)), .unset, .unset, .unset, .unset, .unset, .unset, .unset, .unset, .unset] [(.int (if (p0 &&& (4 : Int32)) = (0 : Int32) then (p1 &&& (7 : Int32)) else p1))])) (fun t k => ?_) ?_
    · skip
      show Steps p.tables e below (s₁.setTop (mkF m 8 #[.val (.int p0), .val (.int p1), .val (.int p2), .val (.int p3), .val (.int p4), .val (.int (3 : Int32)), .unset, .unset, .unset, .unset, .unset, .unset, .unset, .unset, .unset] [(.int (p0 &&& (4 : Int32)))])) t
      by_cases hd151 : (p0 &&& (4 : Int32)) = (0 : Int32)
      · refine XS.ifYes X0.here hx rfl (pc0 := 8) (pc' := 15) rfl (hb hby at_8) rfl ((if0 _ _).trans (teq hd151).1) (by decide) (by decide) ?_
        show Steps p.tables e below (s₁.setTop (mkF m 15 #[.val (.int p0), .val (.int p1), .val (.int p2), .val (.int p3), .val (.int p4), .val (.int (3 : Int32)), .unset, .unset, .unset, .unset, .unset, .unset, .unset, .unset, .unset] [])) t
        refine XS.iloadN X0.here hx rfl (hb hby at_15) rfl ?_
        show Steps p.tables e below (s₁.setTop (mkF m 16 #[.val (.int p0), .val (.int p1), .val (.int p2), .val (.int p3), .val (.int p4), .val (.int (3 : Int32)), .unset, .unset, .unset, .unset, .unset, .unset, .unset, .unset, .unset] [(.int p1)])) t
        refine XS.bipush X0.here hx rfl (hb hby at_16) ?_
        show Steps p.tables e below (s₁.setTop (mkF m 18 #[.val (.int p0), .val (.int p1), .val (.int p2), .val (.int p3), .val (.int p4), .val (.int (3 : Int32)), .unset, .unset, .unset, .unset, .unset, .unset, .unset, .unset, .unset] [(.int (7 : Int32)), (.int p1)])) t
        refine XS.iand X0.here hx rfl (hb hby at_18) rfl ?_
        show Steps p.tables e below (s₁.setTop (mkF m 19 #[.val (.int p0), .val (.int p1), .val (.int p2), .val (.int p3), .val (.int p4), .val (.int (3 : Int32)), .unset, .unset, .unset, .unset, .unset, .unset, .unset, .unset, .unset] [(.int (p1 &&& (7 : Int32)))])) t
        exact (congrArg (fun z => Steps p.tables e below (s₁.setTop (mkF m 19 #[.val (.int p0), .val (.int p1), .val (.int p2), .val (.int p3), .val (.int p4), .val (.int (3 : Int32)), .unset, .unset, .unset, .unset, .unset, .unset, .unset, .unset, .unset] [(.int z)])) t) (if_pos hd151)).mp k
      · refine XS.ifNo X0.here hx rfl (hb hby at_8) rfl ((if0 _ _).trans (feq hd151).1) ?_
        show Steps p.tables e below (s₁.setTop (mkF m 11 #[.val (.int p0), .val (.int p1), .val (.int p2), .val (.int p3), .val (.int p4), .val (.int (3 : Int32)), .unset, .unset, .unset, .unset, .unset, .unset, .unset, .unset, .unset] [])) t
        refine XS.iloadN X0.here hx rfl (hb hby at_11) rfl ?_
        show Steps p.tables e below (s₁.setTop (mkF m 12 #[.val (.int p0), .val (.int p1), .val (.int p2), .val (.int p3), .val (.int p4), .val (.int (3 : Int32)), .unset, .unset, .unset, .unset, .unset, .unset, .unset, .unset, .unset] [(.int p1)])) t
        refine XS.goto X0.here hx rfl (pc0 := 12) (pc' := 19) rfl (hb hby at_12) (by decide) (by decide) ?_
        show Steps p.tables e below (s₁.setTop (mkF m 19 #[.val (.int p0), .val (.int p1), .val (.int p2), .val (.int p3), .val (.int p4), .val (.int (3 : Int32)), .unset, .unset, .unset, .unset, .unset, .unset, .unset, .unset, .unset] [(.int p1)])) t
        exact (congrArg (fun z => Steps p.tables e below (s₁.setTop (mkF m 19 #[.val (.int p0), .val (.int p1), .val (.int p2), .val (.int p3), .val (.int p4), .val (.int (3 : Int32)), .unset, .unset, .unset, .unset, .unset, .unset, .unset, .unset, .unset] [(.int z)])) t) (if_neg hd151)).mp k
    obtain ⟨d0, hd0⟩ : ∃ z, z = (if (p0 &&& (4 : Int32)) = (0 : Int32) then (p1 &&& (7 : Int32)) else p1) := ⟨_, rfl⟩
    refine own_go (B := s₁.setTop (mkF m 19 #[.val (.int p0), .val (.int p1), .val (.int p2), .val (.int p3), .val (.int p4), .val (.int (3 : Int32)), .unset, .unset, .unset, .unset, .unset, .unset, .unset, .unset, .unset] [(.int d0)])) (fun t k => (congrArg (fun z => Steps p.tables e below (s₁.setTop (mkF m 19 #[.val (.int p0), .val (.int p1), .val (.int p2), .val (.int p3), .val (.int p4), .val (.int (3 : Int32)), .unset, .unset, .unset, .unset, .unset, .unset, .unset, .unset, .unset] [(.int z)])) t) (hd0.symm)).mpr k) ?_
    refine own_go (B := s₁.setTop (mkF m 25 #[.val (.int p0), .val (.int p1), .val (.int p2), .val (.int p3), .val (.int p4), .val (.int (3 : Int32)), .val (.int d0), .unset, .unset, .unset, .unset, .unset, .unset, .unset, .unset] [(.int (p0 &&& (8 : Int32)))])) (fun t k => ?_) ?_
    · show Steps p.tables e below (s₁.setTop (mkF m 19 #[.val (.int p0), .val (.int p1), .val (.int p2), .val (.int p3), .val (.int p4), .val (.int (3 : Int32)), .unset, .unset, .unset, .unset, .unset, .unset, .unset, .unset, .unset] [(.int d0)])) t
      refine XS.istore X0.here hx rfl (hb hby at_19) rfl (l' := #[.val (.int p0), .val (.int p1), .val (.int p2), .val (.int p3), .val (.int p4), .val (.int (3 : Int32)), .val (.int d0), .unset, .unset, .unset, .unset, .unset, .unset, .unset, .unset]) rfl ?_
      refine XS.iloadN X0.here hx rfl (hb hby at_21) rfl ?_
      refine XS.bipush X0.here hx rfl (hb hby at_22) ?_
      refine XS.iand X0.here hx rfl (hb hby at_24) rfl ?_
      exact k
    refine own_go (B := s₁.setTop (mkF m 36 #[.val (.int p0), .val (.int p1), .val (.int p2), .val (.int p3), .val (.int p4), .val (.int (3 : Int32)), .val (.int d0), .unset, .unset, .unset, .unset, .unset, .unset, .unset, .unset] [(.int (if (p0 &&& (8 : Int32)) = (0 : Int32) then (p2 &&& (7 : Int32)) else p2))])) (fun t k => ?_) ?_
    · skip
      show Steps p.tables e below (s₁.setTop (mkF m 25 #[.val (.int p0), .val (.int p1), .val (.int p2), .val (.int p3), .val (.int p4), .val (.int (3 : Int32)), .val (.int d0), .unset, .unset, .unset, .unset, .unset, .unset, .unset, .unset] [(.int (p0 &&& (8 : Int32)))])) t
      by_cases hd152 : (p0 &&& (8 : Int32)) = (0 : Int32)
      · refine XS.ifYes X0.here hx rfl (pc0 := 25) (pc' := 32) rfl (hb hby at_25) rfl ((if0 _ _).trans (teq hd152).1) (by decide) (by decide) ?_
        show Steps p.tables e below (s₁.setTop (mkF m 32 #[.val (.int p0), .val (.int p1), .val (.int p2), .val (.int p3), .val (.int p4), .val (.int (3 : Int32)), .val (.int d0), .unset, .unset, .unset, .unset, .unset, .unset, .unset, .unset] [])) t
        refine XS.iloadN X0.here hx rfl (hb hby at_32) rfl ?_
        show Steps p.tables e below (s₁.setTop (mkF m 33 #[.val (.int p0), .val (.int p1), .val (.int p2), .val (.int p3), .val (.int p4), .val (.int (3 : Int32)), .val (.int d0), .unset, .unset, .unset, .unset, .unset, .unset, .unset, .unset] [(.int p2)])) t
        refine XS.bipush X0.here hx rfl (hb hby at_33) ?_
        show Steps p.tables e below (s₁.setTop (mkF m 35 #[.val (.int p0), .val (.int p1), .val (.int p2), .val (.int p3), .val (.int p4), .val (.int (3 : Int32)), .val (.int d0), .unset, .unset, .unset, .unset, .unset, .unset, .unset, .unset] [(.int (7 : Int32)), (.int p2)])) t
        refine XS.iand X0.here hx rfl (hb hby at_35) rfl ?_
        show Steps p.tables e below (s₁.setTop (mkF m 36 #[.val (.int p0), .val (.int p1), .val (.int p2), .val (.int p3), .val (.int p4), .val (.int (3 : Int32)), .val (.int d0), .unset, .unset, .unset, .unset, .unset, .unset, .unset, .unset] [(.int (p2 &&& (7 : Int32)))])) t
        exact (congrArg (fun z => Steps p.tables e below (s₁.setTop (mkF m 36 #[.val (.int p0), .val (.int p1), .val (.int p2), .val (.int p3), .val (.int p4), .val (.int (3 : Int32)), .val (.int d0), .unset, .unset, .unset, .unset, .unset, .unset, .unset, .unset] [(.int z)])) t) (if_pos hd152)).mp k
      · refine XS.ifNo X0.here hx rfl (hb hby at_25) rfl ((if0 _ _).trans (feq hd152).1) ?_
        show Steps p.tables e below (s₁.setTop (mkF m 28 #[.val (.int p0), .val (.int p1), .val (.int p2), .val (.int p3), .val (.int p4), .val (.int (3 : Int32)), .val (.int d0), .unset, .unset, .unset, .unset, .unset, .unset, .unset, .unset] [])) t
        refine XS.iloadN X0.here hx rfl (hb hby at_28) rfl ?_
        show Steps p.tables e below (s₁.setTop (mkF m 29 #[.val (.int p0), .val (.int p1), .val (.int p2), .val (.int p3), .val (.int p4), .val (.int (3 : Int32)), .val (.int d0), .unset, .unset, .unset, .unset, .unset, .unset, .unset, .unset] [(.int p2)])) t
        refine XS.goto X0.here hx rfl (pc0 := 29) (pc' := 36) rfl (hb hby at_29) (by decide) (by decide) ?_
        show Steps p.tables e below (s₁.setTop (mkF m 36 #[.val (.int p0), .val (.int p1), .val (.int p2), .val (.int p3), .val (.int p4), .val (.int (3 : Int32)), .val (.int d0), .unset, .unset, .unset, .unset, .unset, .unset, .unset, .unset] [(.int p2)])) t
        exact (congrArg (fun z => Steps p.tables e below (s₁.setTop (mkF m 36 #[.val (.int p0), .val (.int p1), .val (.int p2), .val (.int p3), .val (.int p4), .val (.int (3 : Int32)), .val (.int d0), .unset, .unset, .unset, .unset, .unset, .unset, .unset, .unset] [(.int z)])) t) (if_neg hd152)).mp k
    obtain ⟨d1, hd1⟩ : ∃ z, z = (if (p0 &&& (8 : Int32)) = (0 : Int32) then (p2 &&& (7 : Int32)) else p2) := ⟨_, rfl⟩
    refine own_go (B := s₁.setTop (mkF m 36 #[.val (.int p0), .val (.int p1), .val (.int p2), .val (.int p3), .val (.int p4), .val (.int (3 : Int32)), .val (.int d0), .unset, .unset, .unset, .unset, .unset, .unset, .unset, .unset] [(.int d1)])) (fun t k => (congrArg (fun z => Steps p.tables e below (s₁.setTop (mkF m 36 #[.val (.int p0), .val (.int p1), .val (.int p2), .val (.int p3), .val (.int p4), .val (.int (3 : Int32)), .val (.int d0), .unset, .unset, .unset, .unset, .unset, .unset, .unset, .unset] [(.int z)])) t) (hd1.symm)).mpr k) ?_
    refine own_go (B := s₁.setTop (mkF m 42 #[.val (.int p0), .val (.int p1), .val (.int p2), .val (.int p3), .val (.int p4), .val (.int (3 : Int32)), .val (.int d0), .val (.int d1), .unset, .unset, .unset, .unset, .unset, .unset, .unset] [(.int (p0 &&& (16 : Int32)))])) (fun t k => ?_) ?_
    · show Steps p.tables e below (s₁.setTop (mkF m 36 #[.val (.int p0), .val (.int p1), .val (.int p2), .val (.int p3), .val (.int p4), .val (.int (3 : Int32)), .val (.int d0), .unset, .unset, .unset, .unset, .unset, .unset, .unset, .unset] [(.int d1)])) t
      refine XS.istore X0.here hx rfl (hb hby at_36) rfl (l' := #[.val (.int p0), .val (.int p1), .val (.int p2), .val (.int p3), .val (.int p4), .val (.int (3 : Int32)), .val (.int d0), .val (.int d1), .unset, .unset, .unset, .unset, .unset, .unset, .unset]) rfl ?_
      refine XS.iloadN X0.here hx rfl (hb hby at_38) rfl ?_
      refine XS.bipush X0.here hx rfl (hb hby at_39) ?_
      refine XS.iand X0.here hx rfl (hb hby at_41) rfl ?_
      exact k
    refine own_go (B := s₁.setTop (mkF m 53 #[.val (.int p0), .val (.int p1), .val (.int p2), .val (.int p3), .val (.int p4), .val (.int (3 : Int32)), .val (.int d0), .val (.int d1), .unset, .unset, .unset, .unset, .unset, .unset, .unset] [(.int (if (p0 &&& (16 : Int32)) = (0 : Int32) then (p3 &&& (7 : Int32)) else p3))])) (fun t k => ?_) ?_
    · skip
      show Steps p.tables e below (s₁.setTop (mkF m 42 #[.val (.int p0), .val (.int p1), .val (.int p2), .val (.int p3), .val (.int p4), .val (.int (3 : Int32)), .val (.int d0), .val (.int d1), .unset, .unset, .unset, .unset, .unset, .unset, .unset] [(.int (p0 &&& (16 : Int32)))])) t
      by_cases hd153 : (p0 &&& (16 : Int32)) = (0 : Int32)
      · refine XS.ifYes X0.here hx rfl (pc0 := 42) (pc' := 49) rfl (hb hby at_42) rfl ((if0 _ _).trans (teq hd153).1) (by decide) (by decide) ?_
        show Steps p.tables e below (s₁.setTop (mkF m 49 #[.val (.int p0), .val (.int p1), .val (.int p2), .val (.int p3), .val (.int p4), .val (.int (3 : Int32)), .val (.int d0), .val (.int d1), .unset, .unset, .unset, .unset, .unset, .unset, .unset] [])) t
        refine XS.iloadN X0.here hx rfl (hb hby at_49) rfl ?_
        show Steps p.tables e below (s₁.setTop (mkF m 50 #[.val (.int p0), .val (.int p1), .val (.int p2), .val (.int p3), .val (.int p4), .val (.int (3 : Int32)), .val (.int d0), .val (.int d1), .unset, .unset, .unset, .unset, .unset, .unset, .unset] [(.int p3)])) t
        refine XS.bipush X0.here hx rfl (hb hby at_50) ?_
        show Steps p.tables e below (s₁.setTop (mkF m 52 #[.val (.int p0), .val (.int p1), .val (.int p2), .val (.int p3), .val (.int p4), .val (.int (3 : Int32)), .val (.int d0), .val (.int d1), .unset, .unset, .unset, .unset, .unset, .unset, .unset] [(.int (7 : Int32)), (.int p3)])) t
        refine XS.iand X0.here hx rfl (hb hby at_52) rfl ?_
        show Steps p.tables e below (s₁.setTop (mkF m 53 #[.val (.int p0), .val (.int p1), .val (.int p2), .val (.int p3), .val (.int p4), .val (.int (3 : Int32)), .val (.int d0), .val (.int d1), .unset, .unset, .unset, .unset, .unset, .unset, .unset] [(.int (p3 &&& (7 : Int32)))])) t
        exact (congrArg (fun z => Steps p.tables e below (s₁.setTop (mkF m 53 #[.val (.int p0), .val (.int p1), .val (.int p2), .val (.int p3), .val (.int p4), .val (.int (3 : Int32)), .val (.int d0), .val (.int d1), .unset, .unset, .unset, .unset, .unset, .unset, .unset] [(.int z)])) t) (if_pos hd153)).mp k
      · refine XS.ifNo X0.here hx rfl (hb hby at_42) rfl ((if0 _ _).trans (feq hd153).1) ?_
        show Steps p.tables e below (s₁.setTop (mkF m 45 #[.val (.int p0), .val (.int p1), .val (.int p2), .val (.int p3), .val (.int p4), .val (.int (3 : Int32)), .val (.int d0), .val (.int d1), .unset, .unset, .unset, .unset, .unset, .unset, .unset] [])) t
        refine XS.iloadN X0.here hx rfl (hb hby at_45) rfl ?_
        show Steps p.tables e below (s₁.setTop (mkF m 46 #[.val (.int p0), .val (.int p1), .val (.int p2), .val (.int p3), .val (.int p4), .val (.int (3 : Int32)), .val (.int d0), .val (.int d1), .unset, .unset, .unset, .unset, .unset, .unset, .unset] [(.int p3)])) t
        refine XS.goto X0.here hx rfl (pc0 := 46) (pc' := 53) rfl (hb hby at_46) (by decide) (by decide) ?_
        show Steps p.tables e below (s₁.setTop (mkF m 53 #[.val (.int p0), .val (.int p1), .val (.int p2), .val (.int p3), .val (.int p4), .val (.int (3 : Int32)), .val (.int d0), .val (.int d1), .unset, .unset, .unset, .unset, .unset, .unset, .unset] [(.int p3)])) t
        exact (congrArg (fun z => Steps p.tables e below (s₁.setTop (mkF m 53 #[.val (.int p0), .val (.int p1), .val (.int p2), .val (.int p3), .val (.int p4), .val (.int (3 : Int32)), .val (.int d0), .val (.int d1), .unset, .unset, .unset, .unset, .unset, .unset, .unset] [(.int z)])) t) (if_neg hd153)).mp k
    obtain ⟨d2, hd2⟩ : ∃ z, z = (if (p0 &&& (16 : Int32)) = (0 : Int32) then (p3 &&& (7 : Int32)) else p3) := ⟨_, rfl⟩
    refine own_go (B := s₁.setTop (mkF m 53 #[.val (.int p0), .val (.int p1), .val (.int p2), .val (.int p3), .val (.int p4), .val (.int (3 : Int32)), .val (.int d0), .val (.int d1), .unset, .unset, .unset, .unset, .unset, .unset, .unset] [(.int d2)])) (fun t k => (congrArg (fun z => Steps p.tables e below (s₁.setTop (mkF m 53 #[.val (.int p0), .val (.int p1), .val (.int p2), .val (.int p3), .val (.int p4), .val (.int (3 : Int32)), .val (.int d0), .val (.int d1), .unset, .unset, .unset, .unset, .unset, .unset, .unset] [(.int z)])) t) (hd2.symm)).mpr k) ?_
    refine own_go (B := s₁.setTop (mkF m 57 #[.val (.int p0), .val (.int p1), .val (.int p2), .val (.int p3), .val (.int p4), .val (.int (3 : Int32)), .val (.int d0), .val (.int d1), .val (.int d2), .unset, .unset, .unset, .unset, .unset, .unset] [(.int (7 : Int32))])) (fun t k => ?_) ?_
    · show Steps p.tables e below (s₁.setTop (mkF m 53 #[.val (.int p0), .val (.int p1), .val (.int p2), .val (.int p3), .val (.int p4), .val (.int (3 : Int32)), .val (.int d0), .val (.int d1), .unset, .unset, .unset, .unset, .unset, .unset, .unset] [(.int d2)])) t
      refine XS.istore X0.here hx rfl (hb hby at_53) rfl (l' := #[.val (.int p0), .val (.int p1), .val (.int p2), .val (.int p3), .val (.int p4), .val (.int (3 : Int32)), .val (.int d0), .val (.int d1), .val (.int d2), .unset, .unset, .unset, .unset, .unset, .unset]) rfl ?_
      refine XS.bipush X0.here hx rfl (hb hby at_55) ?_
      exact k
    obtain ⟨T154, h154, k154, X154, e154, E154, A154, EA154, st154⟩ := newPE X0 hx hZ (hw _ (List.mem_of_getElem? (i := 0) rfl)) e0 (g := (mkF m 57 #[.val (.int p0), .val (.int p1), .val (.int p2), .val (.int p3), .val (.int p4), .val (.int (3 : Int32)), .val (.int d0), .val (.int d1), .val (.int d2), .unset, .unset, .unset, .unset, .unset, .unset] [(.int (7 : Int32))])) rfl (hb hby at_57) rfl (by decide) (cap := 7) (by decide) (by decide) (by decide) (by decide) (ad := "[I") (by decide)
    obtain ⟨b154, g154⟩ : ∃ z, z = h0.size := ⟨_, rfl⟩
    rw [← g154] at A154 EA154 st154
    have g_b154 : n0 ≤ b154 := by rw [g154]; exact Z0
    have sz_b154 : h0.size ≤ b154 := by rw [g154]; exact K0.1
    have K154 : Keep h0 h154 [] := K0.ext E154
    have X154 : Stand p l e room_1 s m #[(.int p0), (.int p1), (.int p2), (.int p3), (.int p4)] below meth c T154 _ 1 7 := X154
    have V_b154 : Arv Z h154 b154 k154 .int (7 : Int32) [(.int (0 : Int32)), (.int (0 : Int32)), (.int (0 : Int32)), (.int (0 : Int32)), (.int (0 : Int32)), (.int (0 : Int32)), (.int (0 : Int32))] (.int (0 : Int32)) := (Arv.new A154 (by decide)).pad (pad_rep [] (.int (0 : Int32)) 7)
    refine own_go st154 ?_
    show own_Fin p.tables e below (T154.setTop (mkF m 59 #[.val (.int p0), .val (.int p1), .val (.int p2), .val (.int p3), .val (.int p4), .val (.int (3 : Int32)), .val (.int d0), .val (.int d1), .val (.int d2), .unset, .unset, .unset, .unset, .unset, .unset] [(.ref b154)])) _
    refine own_go (B := T154.setTop (mkF m 67 #[.val (.int p0), .val (.int p1), .val (.int p2), .val (.int p3), .val (.int p4), .val (.int (3 : Int32)), .val (.int d0), .val (.int d1), .val (.int d2), .val (.ref b154), .unset, .unset, .unset, .unset, .unset] [(.int (0 : Int32)), (.int p4), (.int (0 : Int32)), (.ref b154)])) (fun t k => ?_) ?_
    · show Steps p.tables e below (T154.setTop (mkF m 59 #[.val (.int p0), .val (.int p1), .val (.int p2), .val (.int p3), .val (.int p4), .val (.int (3 : Int32)), .val (.int d0), .val (.int d1), .val (.int d2), .unset, .unset, .unset, .unset, .unset, .unset] [(.ref b154)])) t
      refine XS.astore X154.here hx rfl (hb hby at_59) rfl rfl (l' := #[.val (.int p0), .val (.int p1), .val (.int p2), .val (.int p3), .val (.int p4), .val (.int (3 : Int32)), .val (.int d0), .val (.int d1), .val (.int d2), .val (.ref b154), .unset, .unset, .unset, .unset, .unset]) rfl ?_
      refine XS.aload X154.here hx rfl (hb hby at_61) rfl rfl ?_
      refine XS.iconst X154.here hx rfl (hb hby at_63) ?_
      refine XS.iload X154.here hx rfl (hb hby at_64) rfl ?_
      show Steps p.tables e below (T154.setTop (mkF m 66 #[.val (.int p0), .val (.int p1), .val (.int p2), .val (.int p3), .val (.int p4), .val (.int (3 : Int32)), .val (.int d0), .val (.int d1), .val (.int d2), .val (.ref b154), .unset, .unset, .unset, .unset, .unset] [(.int p4), (.int (0 : Int32)), (.ref b154)])) t
      refine XS.iconst X154.here hx rfl (hb hby at_66) ?_
      exact k
    obtain ⟨_, _, ⟨T155, L155, k155, n155⟩, -, X155, ⟨Lc155, hQ155, l155, y155, z155⟩, st155⟩ := Jvm.LawKit.callS X154 hx (y := (⟨"com/example/rollhaus/rollhaus/dice/FacesAmongPinLaw", "cnt", "(II)I"⟩ : MethodName)) hown (mvT hZ (hw _ (List.mem_of_getElem? (i := 1) rfl))) (mvT hZ (hw _ (List.mem_of_getElem? (i := 2) rfl))) (mvT hZ (hw _ (List.mem_of_getElem? (i := 3) rfl))) (mvT hZ (hw _ (List.mem_of_getElem? (i := 4) rfl))) (by decide) (backOf (W := 2) (rm1 l Z a0 hw [] p4 (0 : Int32)  h154 n0 (Nat.le_trans Z0 K154.1) ) hZ (hw _ (List.mem_of_getElem? (i := 4) rfl)) (hw _ (List.mem_of_getElem? (i := 3) rfl)) (by decide) (by decide)) (g := (mkF m 67 #[.val (.int p0), .val (.int p1), .val (.int p2), .val (.int p3), .val (.int p4), .val (.int (3 : Int32)), .val (.int d0), .val (.int d1), .val (.int d2), .val (.ref b154), .unset, .unset, .unset, .unset, .unset] [(.int (0 : Int32)), (.int p4), (.int (0 : Int32)), (.ref b154)])) rfl (by rw [hml]; rfl) (argsL := [(.int p4), (.int (0 : Int32))]) (rest := [(.int (0 : Int32)), (.ref b154)]) (lenOf pd0_0 rfl) rfl (by show 2 * 0 + _ ≤ _; exact Nat.le_of_eq rfl) (hb hby at_67) (fun _ _ => ⟨rfl, e154, (by decide : 1 + 0 ≤ _), (by decide : 7 + 0 ≤ _)⟩)
    dsimp only [Pt.U, Pt.locs, Pt.cells, Pt.slots] at X155 l155 y155 z155 st155 hQ155
    subst y155 z155
    have X155 : Stand p l e room_1 s m #[(.int p0), (.int p1), (.int p2), (.int p3), (.int p4)] below meth c T155 _ 1 7 := X155
    obtain ⟨rfl, N155q, e155⟩ := hQ155
    have N155 : Fr n0 L155 := by rw [l155]; exact Fr.app N0 N155q
    refine own_go (st155) ?_
    show own_Fin p.tables e below (T155.setTop (mkF m 70 #[.val (.int p0), .val (.int p1), .val (.int p2), .val (.int p3), .val (.int p4), .val (.int (3 : Int32)), .val (.int d0), .val (.int d1), .val (.int d2), .val (.ref b154), .unset, .unset, .unset, .unset, .unset] [(.int (own_cnt p4 (0 : Int32))), (.int (0 : Int32)), (.ref b154)])) _
    obtain ⟨cl156, Ar156, q156, S156, M156, Ha156, G156⟩ := id V_b154
    have hin156 : ¬ ((0 : Int32) < 0 ∨ cl156.slots.size ≤ ((0 : Int32)).toNatClampNeg) := inb_of S156 ⟨by decide, by decide⟩
    obtain ⟨T156, h156, X156, e156, W156, st156⟩ := stI X155 hx hZ e155 Ar156 (j := (0 : Int32)) hin156 (g := (mkF m 70 #[.val (.int p0), .val (.int p1), .val (.int p2), .val (.int p3), .val (.int p4), .val (.int (3 : Int32)), .val (.int d0), .val (.int d1), .val (.int d2), .val (.ref b154), .unset, .unset, .unset, .unset, .unset] [(.int (own_cnt p4 (0 : Int32))), (.int (0 : Int32)), (.ref b154)])) rfl rfl (hb hby at_70)
    have N156 := Fr.snoc X156 N155 g_b154
    have K156 : Keep h0 h156 [] := K154.wr W156 (Or.inr sz_b154)
    have V156 : Arv Z h156 b154 k154 .int (7 : Int32) [(.int (own_cnt p4 (0 : Int32))), (.int (0 : Int32)), (.int (0 : Int32)), (.int (0 : Int32)), (.int (0 : Int32)), (.int (0 : Int32)), (.int (0 : Int32))] (.int (0 : Int32)) := Arv.set Ar156 q156 S156 M156 Ha156 G156 rfl W156 0 rfl (Nat.le_of_ble_eq_true rfl)
    refine own_go st156 ?_
    show own_Fin p.tables e below (T156.setTop (mkF m 71 #[.val (.int p0), .val (.int p1), .val (.int p2), .val (.int p3), .val (.int p4), .val (.int (3 : Int32)), .val (.int d0), .val (.int d1), .val (.int d2), .val (.ref b154), .unset, .unset, .unset, .unset, .unset] [])) _
    refine own_go (B := T156.setTop (mkF m 77 #[.val (.int p0), .val (.int p1), .val (.int p2), .val (.int p3), .val (.int p4), .val (.int (3 : Int32)), .val (.int d0), .val (.int d1), .val (.int d2), .val (.ref b154), .unset, .unset, .unset, .unset, .unset] [(.int (1 : Int32)), (.int p4), (.int (1 : Int32)), (.ref b154)])) (fun t k => ?_) ?_
    · show Steps p.tables e below (T156.setTop (mkF m 71 #[.val (.int p0), .val (.int p1), .val (.int p2), .val (.int p3), .val (.int p4), .val (.int (3 : Int32)), .val (.int d0), .val (.int d1), .val (.int d2), .val (.ref b154), .unset, .unset, .unset, .unset, .unset] [])) t
      refine XS.aload X156.here hx rfl (hb hby at_71) rfl rfl ?_
      refine XS.iconst X156.here hx rfl (hb hby at_73) ?_
      refine XS.iload X156.here hx rfl (hb hby at_74) rfl ?_
      refine XS.iconst X156.here hx rfl (hb hby at_76) ?_
      exact k
    obtain ⟨_, _, ⟨T157, L157, k157, n157⟩, -, X157, ⟨Lc157, hQ157, l157, y157, z157⟩, st157⟩ := Jvm.LawKit.callS X156 hx (y := (⟨"com/example/rollhaus/rollhaus/dice/FacesAmongPinLaw", "cnt", "(II)I"⟩ : MethodName)) hown (mvT hZ (hw _ (List.mem_of_getElem? (i := 1) rfl))) (mvT hZ (hw _ (List.mem_of_getElem? (i := 2) rfl))) (mvT hZ (hw _ (List.mem_of_getElem? (i := 3) rfl))) (mvT hZ (hw _ (List.mem_of_getElem? (i := 4) rfl))) (by decide) (backOf (W := 2) (rm1 l Z a0 hw [] p4 (1 : Int32)  h156 n0 (Nat.le_trans Z0 K156.1) ) hZ (hw _ (List.mem_of_getElem? (i := 4) rfl)) (hw _ (List.mem_of_getElem? (i := 3) rfl)) (by decide) (by decide)) (g := (mkF m 77 #[.val (.int p0), .val (.int p1), .val (.int p2), .val (.int p3), .val (.int p4), .val (.int (3 : Int32)), .val (.int d0), .val (.int d1), .val (.int d2), .val (.ref b154), .unset, .unset, .unset, .unset, .unset] [(.int (1 : Int32)), (.int p4), (.int (1 : Int32)), (.ref b154)])) rfl (by rw [hml]; rfl) (argsL := [(.int p4), (.int (1 : Int32))]) (rest := [(.int (1 : Int32)), (.ref b154)]) (lenOf pd0_0 rfl) rfl (by show 2 * 0 + _ ≤ _; exact Nat.le_of_eq rfl) (hb hby at_77) (fun _ _ => ⟨rfl, e156, (by decide : 1 + 0 ≤ _), (by decide : 7 + 0 ≤ _)⟩)
    dsimp only [Pt.U, Pt.locs, Pt.cells, Pt.slots] at X157 l157 y157 z157 st157 hQ157
    subst y157 z157
    have X157 : Stand p l e room_1 s m #[(.int p0), (.int p1), (.int p2), (.int p3), (.int p4)] below meth c T157 _ 1 7 := X157
    obtain ⟨rfl, N157q, e157⟩ := hQ157
    have N157 : Fr n0 L157 := by rw [l157]; exact Fr.app N156 N157q
    refine own_go (st157) ?_
    show own_Fin p.tables e below (T157.setTop (mkF m 80 #[.val (.int p0), .val (.int p1), .val (.int p2), .val (.int p3), .val (.int p4), .val (.int (3 : Int32)), .val (.int d0), .val (.int d1), .val (.int d2), .val (.ref b154), .unset, .unset, .unset, .unset, .unset] [(.int (own_cnt p4 (1 : Int32))), (.int (1 : Int32)), (.ref b154)])) _
    obtain ⟨cl158, Ar158, q158, S158, M158, Ha158, G158⟩ := id V156
    have hin158 : ¬ ((1 : Int32) < 0 ∨ cl158.slots.size ≤ ((1 : Int32)).toNatClampNeg) := inb_of S158 ⟨by decide, by decide⟩
    obtain ⟨T158, h158, X158, e158, W158, st158⟩ := stI X157 hx hZ e157 Ar158 (j := (1 : Int32)) hin158 (g := (mkF m 80 #[.val (.int p0), .val (.int p1), .val (.int p2), .val (.int p3), .val (.int p4), .val (.int (3 : Int32)), .val (.int d0), .val (.int d1), .val (.int d2), .val (.ref b154), .unset, .unset, .unset, .unset, .unset] [(.int (own_cnt p4 (1 : Int32))), (.int (1 : Int32)), (.ref b154)])) rfl rfl (hb hby at_80)
    have N158 := Fr.snoc X158 N157 g_b154
    have K158 : Keep h0 h158 [] := K156.wr W158 (Or.inr sz_b154)
    have V158 : Arv Z h158 b154 k154 .int (7 : Int32) [(.int (own_cnt p4 (0 : Int32))), (.int (own_cnt p4 (1 : Int32))), (.int (0 : Int32)), (.int (0 : Int32)), (.int (0 : Int32)), (.int (0 : Int32)), (.int (0 : Int32))] (.int (0 : Int32)) := Arv.set Ar158 q158 S158 M158 Ha158 G158 rfl W158 1 rfl (Nat.le_of_ble_eq_true rfl)
    refine own_go st158 ?_
    show own_Fin p.tables e below (T158.setTop (mkF m 81 #[.val (.int p0), .val (.int p1), .val (.int p2), .val (.int p3), .val (.int p4), .val (.int (3 : Int32)), .val (.int d0), .val (.int d1), .val (.int d2), .val (.ref b154), .unset, .unset, .unset, .unset, .unset] [])) _
    refine own_go (B := T158.setTop (mkF m 87 #[.val (.int p0), .val (.int p1), .val (.int p2), .val (.int p3), .val (.int p4), .val (.int (3 : Int32)), .val (.int d0), .val (.int d1), .val (.int d2), .val (.ref b154), .unset, .unset, .unset, .unset, .unset] [(.int (2 : Int32)), (.int p4), (.int (2 : Int32)), (.ref b154)])) (fun t k => ?_) ?_
    · show Steps p.tables e below (T158.setTop (mkF m 81 #[.val (.int p0), .val (.int p1), .val (.int p2), .val (.int p3), .val (.int p4), .val (.int (3 : Int32)), .val (.int d0), .val (.int d1), .val (.int d2), .val (.ref b154), .unset, .unset, .unset, .unset, .unset] [])) t
      refine XS.aload X158.here hx rfl (hb hby at_81) rfl rfl ?_
      refine XS.iconst X158.here hx rfl (hb hby at_83) ?_
      refine XS.iload X158.here hx rfl (hb hby at_84) rfl ?_
      refine XS.iconst X158.here hx rfl (hb hby at_86) ?_
      exact k
    obtain ⟨_, _, ⟨T159, L159, k159, n159⟩, -, X159, ⟨Lc159, hQ159, l159, y159, z159⟩, st159⟩ := Jvm.LawKit.callS X158 hx (y := (⟨"com/example/rollhaus/rollhaus/dice/FacesAmongPinLaw", "cnt", "(II)I"⟩ : MethodName)) hown (mvT hZ (hw _ (List.mem_of_getElem? (i := 1) rfl))) (mvT hZ (hw _ (List.mem_of_getElem? (i := 2) rfl))) (mvT hZ (hw _ (List.mem_of_getElem? (i := 3) rfl))) (mvT hZ (hw _ (List.mem_of_getElem? (i := 4) rfl))) (by decide) (backOf (W := 2) (rm1 l Z a0 hw [] p4 (2 : Int32)  h158 n0 (Nat.le_trans Z0 K158.1) ) hZ (hw _ (List.mem_of_getElem? (i := 4) rfl)) (hw _ (List.mem_of_getElem? (i := 3) rfl)) (by decide) (by decide)) (g := (mkF m 87 #[.val (.int p0), .val (.int p1), .val (.int p2), .val (.int p3), .val (.int p4), .val (.int (3 : Int32)), .val (.int d0), .val (.int d1), .val (.int d2), .val (.ref b154), .unset, .unset, .unset, .unset, .unset] [(.int (2 : Int32)), (.int p4), (.int (2 : Int32)), (.ref b154)])) rfl (by rw [hml]; rfl) (argsL := [(.int p4), (.int (2 : Int32))]) (rest := [(.int (2 : Int32)), (.ref b154)]) (lenOf pd0_0 rfl) rfl (by show 2 * 0 + _ ≤ _; exact Nat.le_of_eq rfl) (hb hby at_87) (fun _ _ => ⟨rfl, e158, (by decide : 1 + 0 ≤ _), (by decide : 7 + 0 ≤ _)⟩)
    dsimp only [Pt.U, Pt.locs, Pt.cells, Pt.slots] at X159 l159 y159 z159 st159 hQ159
    subst y159 z159
    have X159 : Stand p l e room_1 s m #[(.int p0), (.int p1), (.int p2), (.int p3), (.int p4)] below meth c T159 _ 1 7 := X159
    obtain ⟨rfl, N159q, e159⟩ := hQ159
    have N159 : Fr n0 L159 := by rw [l159]; exact Fr.app N158 N159q
    refine own_go (st159) ?_
    show own_Fin p.tables e below (T159.setTop (mkF m 90 #[.val (.int p0), .val (.int p1), .val (.int p2), .val (.int p3), .val (.int p4), .val (.int (3 : Int32)), .val (.int d0), .val (.int d1), .val (.int d2), .val (.ref b154), .unset, .unset, .unset, .unset, .unset] [(.int (own_cnt p4 (2 : Int32))), (.int (2 : Int32)), (.ref b154)])) _
    obtain ⟨cl160, Ar160, q160, S160, M160, Ha160, G160⟩ := id V158
    have hin160 : ¬ ((2 : Int32) < 0 ∨ cl160.slots.size ≤ ((2 : Int32)).toNatClampNeg) := inb_of S160 ⟨by decide, by decide⟩
    obtain ⟨T160, h160, X160, e160, W160, st160⟩ := stI X159 hx hZ e159 Ar160 (j := (2 : Int32)) hin160 (g := (mkF m 90 #[.val (.int p0), .val (.int p1), .val (.int p2), .val (.int p3), .val (.int p4), .val (.int (3 : Int32)), .val (.int d0), .val (.int d1), .val (.int d2), .val (.ref b154), .unset, .unset, .unset, .unset, .unset] [(.int (own_cnt p4 (2 : Int32))), (.int (2 : Int32)), (.ref b154)])) rfl rfl (hb hby at_90)
    have N160 := Fr.snoc X160 N159 g_b154
    have K160 : Keep h0 h160 [] := K158.wr W160 (Or.inr sz_b154)
    have V160 : Arv Z h160 b154 k154 .int (7 : Int32) [(.int (own_cnt p4 (0 : Int32))), (.int (own_cnt p4 (1 : Int32))), (.int (own_cnt p4 (2 : Int32))), (.int (0 : Int32)), (.int (0 : Int32)), (.int (0 : Int32)), (.int (0 : Int32))] (.int (0 : Int32)) := Arv.set Ar160 q160 S160 M160 Ha160 G160 rfl W160 2 rfl (Nat.le_of_ble_eq_true rfl)
    refine own_go st160 ?_
    show own_Fin p.tables e below (T160.setTop (mkF m 91 #[.val (.int p0), .val (.int p1), .val (.int p2), .val (.int p3), .val (.int p4), .val (.int (3 : Int32)), .val (.int d0), .val (.int d1), .val (.int d2), .val (.ref b154), .unset, .unset, .unset, .unset, .unset] [])) _
    refine own_go (B := T160.setTop (mkF m 97 #[.val (.int p0), .val (.int p1), .val (.int p2), .val (.int p3), .val (.int p4), .val (.int (3 : Int32)), .val (.int d0), .val (.int d1), .val (.int d2), .val (.ref b154), .unset, .unset, .unset, .unset, .unset] [(.int (3 : Int32)), (.int p4), (.int (3 : Int32)), (.ref b154)])) (fun t k => ?_) ?_
    · show Steps p.tables e below (T160.setTop (mkF m 91 #[.val (.int p0), .val (.int p1), .val (.int p2), .val (.int p3), .val (.int p4), .val (.int (3 : Int32)), .val (.int d0), .val (.int d1), .val (.int d2), .val (.ref b154), .unset, .unset, .unset, .unset, .unset] [])) t
      refine XS.aload X160.here hx rfl (hb hby at_91) rfl rfl ?_
      refine XS.iconst X160.here hx rfl (hb hby at_93) ?_
      refine XS.iload X160.here hx rfl (hb hby at_94) rfl ?_
      refine XS.iconst X160.here hx rfl (hb hby at_96) ?_
      exact k
    obtain ⟨_, _, ⟨T161, L161, k161, n161⟩, -, X161, ⟨Lc161, hQ161, l161, y161, z161⟩, st161⟩ := Jvm.LawKit.callS X160 hx (y := (⟨"com/example/rollhaus/rollhaus/dice/FacesAmongPinLaw", "cnt", "(II)I"⟩ : MethodName)) hown (mvT hZ (hw _ (List.mem_of_getElem? (i := 1) rfl))) (mvT hZ (hw _ (List.mem_of_getElem? (i := 2) rfl))) (mvT hZ (hw _ (List.mem_of_getElem? (i := 3) rfl))) (mvT hZ (hw _ (List.mem_of_getElem? (i := 4) rfl))) (by decide) (backOf (W := 2) (rm1 l Z a0 hw [] p4 (3 : Int32)  h160 n0 (Nat.le_trans Z0 K160.1) ) hZ (hw _ (List.mem_of_getElem? (i := 4) rfl)) (hw _ (List.mem_of_getElem? (i := 3) rfl)) (by decide) (by decide)) (g := (mkF m 97 #[.val (.int p0), .val (.int p1), .val (.int p2), .val (.int p3), .val (.int p4), .val (.int (3 : Int32)), .val (.int d0), .val (.int d1), .val (.int d2), .val (.ref b154), .unset, .unset, .unset, .unset, .unset] [(.int (3 : Int32)), (.int p4), (.int (3 : Int32)), (.ref b154)])) rfl (by rw [hml]; rfl) (argsL := [(.int p4), (.int (3 : Int32))]) (rest := [(.int (3 : Int32)), (.ref b154)]) (lenOf pd0_0 rfl) rfl (by show 2 * 0 + _ ≤ _; exact Nat.le_of_eq rfl) (hb hby at_97) (fun _ _ => ⟨rfl, e160, (by decide : 1 + 0 ≤ _), (by decide : 7 + 0 ≤ _)⟩)
    dsimp only [Pt.U, Pt.locs, Pt.cells, Pt.slots] at X161 l161 y161 z161 st161 hQ161
    subst y161 z161
    have X161 : Stand p l e room_1 s m #[(.int p0), (.int p1), (.int p2), (.int p3), (.int p4)] below meth c T161 _ 1 7 := X161
    obtain ⟨rfl, N161q, e161⟩ := hQ161
    have N161 : Fr n0 L161 := by rw [l161]; exact Fr.app N160 N161q
    refine own_go (st161) ?_
    show own_Fin p.tables e below (T161.setTop (mkF m 100 #[.val (.int p0), .val (.int p1), .val (.int p2), .val (.int p3), .val (.int p4), .val (.int (3 : Int32)), .val (.int d0), .val (.int d1), .val (.int d2), .val (.ref b154), .unset, .unset, .unset, .unset, .unset] [(.int (own_cnt p4 (3 : Int32))), (.int (3 : Int32)), (.ref b154)])) _
    obtain ⟨cl162, Ar162, q162, S162, M162, Ha162, G162⟩ := id V160
    have hin162 : ¬ ((3 : Int32) < 0 ∨ cl162.slots.size ≤ ((3 : Int32)).toNatClampNeg) := inb_of S162 ⟨by decide, by decide⟩
    obtain ⟨T162, h162, X162, e162, W162, st162⟩ := stI X161 hx hZ e161 Ar162 (j := (3 : Int32)) hin162 (g := (mkF m 100 #[.val (.int p0), .val (.int p1), .val (.int p2), .val (.int p3), .val (.int p4), .val (.int (3 : Int32)), .val (.int d0), .val (.int d1), .val (.int d2), .val (.ref b154), .unset, .unset, .unset, .unset, .unset] [(.int (own_cnt p4 (3 : Int32))), (.int (3 : Int32)), (.ref b154)])) rfl rfl (hb hby at_100)
    have N162 := Fr.snoc X162 N161 g_b154
    have K162 : Keep h0 h162 [] := K160.wr W162 (Or.inr sz_b154)
    have V162 : Arv Z h162 b154 k154 .int (7 : Int32) [(.int (own_cnt p4 (0 : Int32))), (.int (own_cnt p4 (1 : Int32))), (.int (own_cnt p4 (2 : Int32))), (.int (own_cnt p4 (3 : Int32))), (.int (0 : Int32)), (.int (0 : Int32)), (.int (0 : Int32))] (.int (0 : Int32)) := Arv.set Ar162 q162 S162 M162 Ha162 G162 rfl W162 3 rfl (Nat.le_of_ble_eq_true rfl)
    refine own_go st162 ?_
    show own_Fin p.tables e below (T162.setTop (mkF m 101 #[.val (.int p0), .val (.int p1), .val (.int p2), .val (.int p3), .val (.int p4), .val (.int (3 : Int32)), .val (.int d0), .val (.int d1), .val (.int d2), .val (.ref b154), .unset, .unset, .unset, .unset, .unset] [])) _
    refine own_go (B := T162.setTop (mkF m 107 #[.val (.int p0), .val (.int p1), .val (.int p2), .val (.int p3), .val (.int p4), .val (.int (3 : Int32)), .val (.int d0), .val (.int d1), .val (.int d2), .val (.ref b154), .unset, .unset, .unset, .unset, .unset] [(.int (4 : Int32)), (.int p4), (.int (4 : Int32)), (.ref b154)])) (fun t k => ?_) ?_
    · show Steps p.tables e below (T162.setTop (mkF m 101 #[.val (.int p0), .val (.int p1), .val (.int p2), .val (.int p3), .val (.int p4), .val (.int (3 : Int32)), .val (.int d0), .val (.int d1), .val (.int d2), .val (.ref b154), .unset, .unset, .unset, .unset, .unset] [])) t
      refine XS.aload X162.here hx rfl (hb hby at_101) rfl rfl ?_
      refine XS.iconst X162.here hx rfl (hb hby at_103) ?_
      refine XS.iload X162.here hx rfl (hb hby at_104) rfl ?_
      refine XS.iconst X162.here hx rfl (hb hby at_106) ?_
      exact k
    obtain ⟨_, _, ⟨T163, L163, k163, n163⟩, -, X163, ⟨Lc163, hQ163, l163, y163, z163⟩, st163⟩ := Jvm.LawKit.callS X162 hx (y := (⟨"com/example/rollhaus/rollhaus/dice/FacesAmongPinLaw", "cnt", "(II)I"⟩ : MethodName)) hown (mvT hZ (hw _ (List.mem_of_getElem? (i := 1) rfl))) (mvT hZ (hw _ (List.mem_of_getElem? (i := 2) rfl))) (mvT hZ (hw _ (List.mem_of_getElem? (i := 3) rfl))) (mvT hZ (hw _ (List.mem_of_getElem? (i := 4) rfl))) (by decide) (backOf (W := 2) (rm1 l Z a0 hw [] p4 (4 : Int32)  h162 n0 (Nat.le_trans Z0 K162.1) ) hZ (hw _ (List.mem_of_getElem? (i := 4) rfl)) (hw _ (List.mem_of_getElem? (i := 3) rfl)) (by decide) (by decide)) (g := (mkF m 107 #[.val (.int p0), .val (.int p1), .val (.int p2), .val (.int p3), .val (.int p4), .val (.int (3 : Int32)), .val (.int d0), .val (.int d1), .val (.int d2), .val (.ref b154), .unset, .unset, .unset, .unset, .unset] [(.int (4 : Int32)), (.int p4), (.int (4 : Int32)), (.ref b154)])) rfl (by rw [hml]; rfl) (argsL := [(.int p4), (.int (4 : Int32))]) (rest := [(.int (4 : Int32)), (.ref b154)]) (lenOf pd0_0 rfl) rfl (by show 2 * 0 + _ ≤ _; exact Nat.le_of_eq rfl) (hb hby at_107) (fun _ _ => ⟨rfl, e162, (by decide : 1 + 0 ≤ _), (by decide : 7 + 0 ≤ _)⟩)
    dsimp only [Pt.U, Pt.locs, Pt.cells, Pt.slots] at X163 l163 y163 z163 st163 hQ163
    subst y163 z163
    have X163 : Stand p l e room_1 s m #[(.int p0), (.int p1), (.int p2), (.int p3), (.int p4)] below meth c T163 _ 1 7 := X163
    obtain ⟨rfl, N163q, e163⟩ := hQ163
    have N163 : Fr n0 L163 := by rw [l163]; exact Fr.app N162 N163q
    refine own_go (st163) ?_
    show own_Fin p.tables e below (T163.setTop (mkF m 110 #[.val (.int p0), .val (.int p1), .val (.int p2), .val (.int p3), .val (.int p4), .val (.int (3 : Int32)), .val (.int d0), .val (.int d1), .val (.int d2), .val (.ref b154), .unset, .unset, .unset, .unset, .unset] [(.int (own_cnt p4 (4 : Int32))), (.int (4 : Int32)), (.ref b154)])) _
    obtain ⟨cl164, Ar164, q164, S164, M164, Ha164, G164⟩ := id V162
    have hin164 : ¬ ((4 : Int32) < 0 ∨ cl164.slots.size ≤ ((4 : Int32)).toNatClampNeg) := inb_of S164 ⟨by decide, by decide⟩
    obtain ⟨T164, h164, X164, e164, W164, st164⟩ := stI X163 hx hZ e163 Ar164 (j := (4 : Int32)) hin164 (g := (mkF m 110 #[.val (.int p0), .val (.int p1), .val (.int p2), .val (.int p3), .val (.int p4), .val (.int (3 : Int32)), .val (.int d0), .val (.int d1), .val (.int d2), .val (.ref b154), .unset, .unset, .unset, .unset, .unset] [(.int (own_cnt p4 (4 : Int32))), (.int (4 : Int32)), (.ref b154)])) rfl rfl (hb hby at_110)
    have N164 := Fr.snoc X164 N163 g_b154
    have K164 : Keep h0 h164 [] := K162.wr W164 (Or.inr sz_b154)
    have V164 : Arv Z h164 b154 k154 .int (7 : Int32) [(.int (own_cnt p4 (0 : Int32))), (.int (own_cnt p4 (1 : Int32))), (.int (own_cnt p4 (2 : Int32))), (.int (own_cnt p4 (3 : Int32))), (.int (own_cnt p4 (4 : Int32))), (.int (0 : Int32)), (.int (0 : Int32))] (.int (0 : Int32)) := Arv.set Ar164 q164 S164 M164 Ha164 G164 rfl W164 4 rfl (Nat.le_of_ble_eq_true rfl)
    refine own_go st164 ?_
    show own_Fin p.tables e below (T164.setTop (mkF m 111 #[.val (.int p0), .val (.int p1), .val (.int p2), .val (.int p3), .val (.int p4), .val (.int (3 : Int32)), .val (.int d0), .val (.int d1), .val (.int d2), .val (.ref b154), .unset, .unset, .unset, .unset, .unset] [])) _
    refine own_go (B := T164.setTop (mkF m 117 #[.val (.int p0), .val (.int p1), .val (.int p2), .val (.int p3), .val (.int p4), .val (.int (3 : Int32)), .val (.int d0), .val (.int d1), .val (.int d2), .val (.ref b154), .unset, .unset, .unset, .unset, .unset] [(.int (5 : Int32)), (.int p4), (.int (5 : Int32)), (.ref b154)])) (fun t k => ?_) ?_
    · show Steps p.tables e below (T164.setTop (mkF m 111 #[.val (.int p0), .val (.int p1), .val (.int p2), .val (.int p3), .val (.int p4), .val (.int (3 : Int32)), .val (.int d0), .val (.int d1), .val (.int d2), .val (.ref b154), .unset, .unset, .unset, .unset, .unset] [])) t
      refine XS.aload X164.here hx rfl (hb hby at_111) rfl rfl ?_
      refine XS.iconst X164.here hx rfl (hb hby at_113) ?_
      refine XS.iload X164.here hx rfl (hb hby at_114) rfl ?_
      refine XS.iconst X164.here hx rfl (hb hby at_116) ?_
      exact k
    obtain ⟨_, _, ⟨T165, L165, k165, n165⟩, -, X165, ⟨Lc165, hQ165, l165, y165, z165⟩, st165⟩ := Jvm.LawKit.callS X164 hx (y := (⟨"com/example/rollhaus/rollhaus/dice/FacesAmongPinLaw", "cnt", "(II)I"⟩ : MethodName)) hown (mvT hZ (hw _ (List.mem_of_getElem? (i := 1) rfl))) (mvT hZ (hw _ (List.mem_of_getElem? (i := 2) rfl))) (mvT hZ (hw _ (List.mem_of_getElem? (i := 3) rfl))) (mvT hZ (hw _ (List.mem_of_getElem? (i := 4) rfl))) (by decide) (backOf (W := 2) (rm1 l Z a0 hw [] p4 (5 : Int32)  h164 n0 (Nat.le_trans Z0 K164.1) ) hZ (hw _ (List.mem_of_getElem? (i := 4) rfl)) (hw _ (List.mem_of_getElem? (i := 3) rfl)) (by decide) (by decide)) (g := (mkF m 117 #[.val (.int p0), .val (.int p1), .val (.int p2), .val (.int p3), .val (.int p4), .val (.int (3 : Int32)), .val (.int d0), .val (.int d1), .val (.int d2), .val (.ref b154), .unset, .unset, .unset, .unset, .unset] [(.int (5 : Int32)), (.int p4), (.int (5 : Int32)), (.ref b154)])) rfl (by rw [hml]; rfl) (argsL := [(.int p4), (.int (5 : Int32))]) (rest := [(.int (5 : Int32)), (.ref b154)]) (lenOf pd0_0 rfl) rfl (by show 2 * 0 + _ ≤ _; exact Nat.le_of_eq rfl) (hb hby at_117) (fun _ _ => ⟨rfl, e164, (by decide : 1 + 0 ≤ _), (by decide : 7 + 0 ≤ _)⟩)
    dsimp only [Pt.U, Pt.locs, Pt.cells, Pt.slots] at X165 l165 y165 z165 st165 hQ165
    subst y165 z165
    have X165 : Stand p l e room_1 s m #[(.int p0), (.int p1), (.int p2), (.int p3), (.int p4)] below meth c T165 _ 1 7 := X165
    obtain ⟨rfl, N165q, e165⟩ := hQ165
    have N165 : Fr n0 L165 := by rw [l165]; exact Fr.app N164 N165q
    refine own_go (st165) ?_
    show own_Fin p.tables e below (T165.setTop (mkF m 120 #[.val (.int p0), .val (.int p1), .val (.int p2), .val (.int p3), .val (.int p4), .val (.int (3 : Int32)), .val (.int d0), .val (.int d1), .val (.int d2), .val (.ref b154), .unset, .unset, .unset, .unset, .unset] [(.int (own_cnt p4 (5 : Int32))), (.int (5 : Int32)), (.ref b154)])) _
    obtain ⟨cl166, Ar166, q166, S166, M166, Ha166, G166⟩ := id V164
    have hin166 : ¬ ((5 : Int32) < 0 ∨ cl166.slots.size ≤ ((5 : Int32)).toNatClampNeg) := inb_of S166 ⟨by decide, by decide⟩
    obtain ⟨T166, h166, X166, e166, W166, st166⟩ := stI X165 hx hZ e165 Ar166 (j := (5 : Int32)) hin166 (g := (mkF m 120 #[.val (.int p0), .val (.int p1), .val (.int p2), .val (.int p3), .val (.int p4), .val (.int (3 : Int32)), .val (.int d0), .val (.int d1), .val (.int d2), .val (.ref b154), .unset, .unset, .unset, .unset, .unset] [(.int (own_cnt p4 (5 : Int32))), (.int (5 : Int32)), (.ref b154)])) rfl rfl (hb hby at_120)
    have N166 := Fr.snoc X166 N165 g_b154
    have K166 : Keep h0 h166 [] := K164.wr W166 (Or.inr sz_b154)
    have V166 : Arv Z h166 b154 k154 .int (7 : Int32) [(.int (own_cnt p4 (0 : Int32))), (.int (own_cnt p4 (1 : Int32))), (.int (own_cnt p4 (2 : Int32))), (.int (own_cnt p4 (3 : Int32))), (.int (own_cnt p4 (4 : Int32))), (.int (own_cnt p4 (5 : Int32))), (.int (0 : Int32))] (.int (0 : Int32)) := Arv.set Ar166 q166 S166 M166 Ha166 G166 rfl W166 5 rfl (Nat.le_of_ble_eq_true rfl)
    refine own_go st166 ?_
    show own_Fin p.tables e below (T166.setTop (mkF m 121 #[.val (.int p0), .val (.int p1), .val (.int p2), .val (.int p3), .val (.int p4), .val (.int (3 : Int32)), .val (.int d0), .val (.int d1), .val (.int d2), .val (.ref b154), .unset, .unset, .unset, .unset, .unset] [])) _
    refine own_go (B := T166.setTop (mkF m 129 #[.val (.int p0), .val (.int p1), .val (.int p2), .val (.int p3), .val (.int p4), .val (.int (3 : Int32)), .val (.int d0), .val (.int d1), .val (.int d2), .val (.ref b154), .unset, .unset, .unset, .unset, .unset] [(.int (6 : Int32)), (.int p4), (.int (6 : Int32)), (.ref b154)])) (fun t k => ?_) ?_
    · show Steps p.tables e below (T166.setTop (mkF m 121 #[.val (.int p0), .val (.int p1), .val (.int p2), .val (.int p3), .val (.int p4), .val (.int (3 : Int32)), .val (.int d0), .val (.int d1), .val (.int d2), .val (.ref b154), .unset, .unset, .unset, .unset, .unset] [])) t
      refine XS.aload X166.here hx rfl (hb hby at_121) rfl rfl ?_
      refine XS.bipush X166.here hx rfl (hb hby at_123) ?_
      refine XS.iload X166.here hx rfl (hb hby at_125) rfl ?_
      refine XS.bipush X166.here hx rfl (hb hby at_127) ?_
      exact k
    obtain ⟨_, _, ⟨T167, L167, k167, n167⟩, -, X167, ⟨Lc167, hQ167, l167, y167, z167⟩, st167⟩ := Jvm.LawKit.callS X166 hx (y := (⟨"com/example/rollhaus/rollhaus/dice/FacesAmongPinLaw", "cnt", "(II)I"⟩ : MethodName)) hown (mvT hZ (hw _ (List.mem_of_getElem? (i := 1) rfl))) (mvT hZ (hw _ (List.mem_of_getElem? (i := 2) rfl))) (mvT hZ (hw _ (List.mem_of_getElem? (i := 3) rfl))) (mvT hZ (hw _ (List.mem_of_getElem? (i := 4) rfl))) (by decide) (backOf (W := 2) (rm1 l Z a0 hw [] p4 (6 : Int32)  h166 n0 (Nat.le_trans Z0 K166.1) ) hZ (hw _ (List.mem_of_getElem? (i := 4) rfl)) (hw _ (List.mem_of_getElem? (i := 3) rfl)) (by decide) (by decide)) (g := (mkF m 129 #[.val (.int p0), .val (.int p1), .val (.int p2), .val (.int p3), .val (.int p4), .val (.int (3 : Int32)), .val (.int d0), .val (.int d1), .val (.int d2), .val (.ref b154), .unset, .unset, .unset, .unset, .unset] [(.int (6 : Int32)), (.int p4), (.int (6 : Int32)), (.ref b154)])) rfl (by rw [hml]; rfl) (argsL := [(.int p4), (.int (6 : Int32))]) (rest := [(.int (6 : Int32)), (.ref b154)]) (lenOf pd0_0 rfl) rfl (by show 2 * 0 + _ ≤ _; exact Nat.le_of_eq rfl) (hb hby at_129) (fun _ _ => ⟨rfl, e166, (by decide : 1 + 0 ≤ _), (by decide : 7 + 0 ≤ _)⟩)
    dsimp only [Pt.U, Pt.locs, Pt.cells, Pt.slots] at X167 l167 y167 z167 st167 hQ167
    subst y167 z167
    have X167 : Stand p l e room_1 s m #[(.int p0), (.int p1), (.int p2), (.int p3), (.int p4)] below meth c T167 _ 1 7 := X167
    obtain ⟨rfl, N167q, e167⟩ := hQ167
    have N167 : Fr n0 L167 := by rw [l167]; exact Fr.app N166 N167q
    refine own_go (st167) ?_
    show own_Fin p.tables e below (T167.setTop (mkF m 132 #[.val (.int p0), .val (.int p1), .val (.int p2), .val (.int p3), .val (.int p4), .val (.int (3 : Int32)), .val (.int d0), .val (.int d1), .val (.int d2), .val (.ref b154), .unset, .unset, .unset, .unset, .unset] [(.int (own_cnt p4 (6 : Int32))), (.int (6 : Int32)), (.ref b154)])) _
    obtain ⟨cl168, Ar168, q168, S168, M168, Ha168, G168⟩ := id V166
    have hin168 : ¬ ((6 : Int32) < 0 ∨ cl168.slots.size ≤ ((6 : Int32)).toNatClampNeg) := inb_of S168 ⟨by decide, by decide⟩
    obtain ⟨T168, h168, X168, e168, W168, st168⟩ := stI X167 hx hZ e167 Ar168 (j := (6 : Int32)) hin168 (g := (mkF m 132 #[.val (.int p0), .val (.int p1), .val (.int p2), .val (.int p3), .val (.int p4), .val (.int (3 : Int32)), .val (.int d0), .val (.int d1), .val (.int d2), .val (.ref b154), .unset, .unset, .unset, .unset, .unset] [(.int (own_cnt p4 (6 : Int32))), (.int (6 : Int32)), (.ref b154)])) rfl rfl (hb hby at_132)
    have N168 := Fr.snoc X168 N167 g_b154
    have K168 : Keep h0 h168 [] := K166.wr W168 (Or.inr sz_b154)
    have V168 : Arv Z h168 b154 k154 .int (7 : Int32) [(.int (own_cnt p4 (0 : Int32))), (.int (own_cnt p4 (1 : Int32))), (.int (own_cnt p4 (2 : Int32))), (.int (own_cnt p4 (3 : Int32))), (.int (own_cnt p4 (4 : Int32))), (.int (own_cnt p4 (5 : Int32))), (.int (own_cnt p4 (6 : Int32)))] (.int (0 : Int32)) := Arv.set Ar168 q168 S168 M168 Ha168 G168 rfl W168 6 rfl (Nat.le_of_ble_eq_true rfl)
    refine own_go st168 ?_
    show own_Fin p.tables e below (T168.setTop (mkF m 133 #[.val (.int p0), .val (.int p1), .val (.int p2), .val (.int p3), .val (.int p4), .val (.int (3 : Int32)), .val (.int d0), .val (.int d1), .val (.int d2), .val (.ref b154), .unset, .unset, .unset, .unset, .unset] [])) _
    refine own_go (B := T168.setTop (mkF m 135 #[.val (.int p0), .val (.int p1), .val (.int p2), .val (.int p3), .val (.int p4), .val (.int (3 : Int32)), .val (.int d0), .val (.int d1), .val (.int d2), .val (.ref b154), .unset, .unset, .unset, .unset, .unset] [(.int (3 : Int32))])) (fun t k => ?_) ?_
    · show Steps p.tables e below (T168.setTop (mkF m 133 #[.val (.int p0), .val (.int p1), .val (.int p2), .val (.int p3), .val (.int p4), .val (.int (3 : Int32)), .val (.int d0), .val (.int d1), .val (.int d2), .val (.ref b154), .unset, .unset, .unset, .unset, .unset] [])) t
      refine XS.iload X168.here hx rfl (hb hby at_133) rfl ?_
      exact k
    obtain ⟨T169, h169, k169, X169, e169, E169, A169, EA169, st169⟩ := newPE X168 hx hZ (hw _ (List.mem_of_getElem? (i := 0) rfl)) e168 (g := (mkF m 135 #[.val (.int p0), .val (.int p1), .val (.int p2), .val (.int p3), .val (.int p4), .val (.int (3 : Int32)), .val (.int d0), .val (.int d1), .val (.int d2), .val (.ref b154), .unset, .unset, .unset, .unset, .unset] [(.int (3 : Int32))])) rfl (hb hby at_135) rfl (by decide) (cap := 3) (by decide) (by decide) (by decide) (by decide) (ad := "[I") (by decide)
    obtain ⟨b169, g169⟩ : ∃ z, z = h168.size := ⟨_, rfl⟩
    rw [← g169] at A169 EA169 st169
    have g_b169 : n0 ≤ b169 := by rw [g169]; exact (Nat.le_trans Z0 K168.1)
    have sz_b169 : h0.size ≤ b169 := by rw [g169]; exact K168.1
    have ne170 : b154 ≠ b169 := Nat.ne_of_lt (by rw [g169]; exact V168.lt)
    have K169 : Keep h0 h169 [] := K168.ext E169
    have X169 : Stand p l e room_1 s m #[(.int p0), (.int p1), (.int p2), (.int p3), (.int p4)] below meth c T169 _ 2 10 := X169
    have V_b169 : Arv Z h169 b169 k169 .int (3 : Int32) [(.int (0 : Int32)), (.int (0 : Int32)), (.int (0 : Int32))] (.int (0 : Int32)) := (Arv.new A169 (by decide)).pad (pad_rep [] (.int (0 : Int32)) 3)
    refine own_go st169 ?_
    show own_Fin p.tables e below (T169.setTop (mkF m 137 #[.val (.int p0), .val (.int p1), .val (.int p2), .val (.int p3), .val (.int p4), .val (.int (3 : Int32)), .val (.int d0), .val (.int d1), .val (.int d2), .val (.ref b154), .unset, .unset, .unset, .unset, .unset] [(.ref b169)])) _
    refine own_go (B := T169.setTop (mkF m 149 #[.val (.int p0), .val (.int p1), .val (.int p2), .val (.int p3), .val (.int p4), .val (.int (3 : Int32)), .val (.int d0), .val (.int d1), .val (.int d2), .val (.ref b154), .val (.ref b169), .unset, .unset, .unset, .unset] [(.int d0), (.int (0 : Int32)), (.ref b169)])) (fun t k => ?_) ?_
    · show Steps p.tables e below (T169.setTop (mkF m 137 #[.val (.int p0), .val (.int p1), .val (.int p2), .val (.int p3), .val (.int p4), .val (.int (3 : Int32)), .val (.int d0), .val (.int d1), .val (.int d2), .val (.ref b154), .unset, .unset, .unset, .unset, .unset] [(.ref b169)])) t
      refine XS.astore X169.here hx rfl (hb hby at_137) rfl rfl (l' := #[.val (.int p0), .val (.int p1), .val (.int p2), .val (.int p3), .val (.int p4), .val (.int (3 : Int32)), .val (.int d0), .val (.int d1), .val (.int d2), .val (.ref b154), .val (.ref b169), .unset, .unset, .unset, .unset]) rfl ?_
      refine XS.iload X169.here hx rfl (hb hby at_139) rfl ?_
      refine XS.ifNo X169.here hx rfl (hb hby at_141) rfl ((if0 _ _).trans (tlt (by decide : (0 : Int32) < (3 : Int32))).2.2.2) ?_
      refine XS.aload X169.here hx rfl (hb hby at_144) rfl rfl ?_
      show Steps p.tables e below (T169.setTop (mkF m 146 #[.val (.int p0), .val (.int p1), .val (.int p2), .val (.int p3), .val (.int p4), .val (.int (3 : Int32)), .val (.int d0), .val (.int d1), .val (.int d2), .val (.ref b154), .val (.ref b169), .unset, .unset, .unset, .unset] [(.ref b169)])) t
      refine XS.iconst X169.here hx rfl (hb hby at_146) ?_
      refine XS.iload X169.here hx rfl (hb hby at_147) rfl ?_
      exact k
    obtain ⟨cl171, Ar171, q171, S171, M171, Ha171, G171⟩ := id V_b169
    have hin171 : ¬ ((0 : Int32) < 0 ∨ cl171.slots.size ≤ ((0 : Int32)).toNatClampNeg) := inb_of S171 ⟨by decide, by decide⟩
    obtain ⟨T171, h171, X171, e171, W171, st171⟩ := stI X169 hx hZ e169 Ar171 (j := (0 : Int32)) hin171 (g := (mkF m 149 #[.val (.int p0), .val (.int p1), .val (.int p2), .val (.int p3), .val (.int p4), .val (.int (3 : Int32)), .val (.int d0), .val (.int d1), .val (.int d2), .val (.ref b154), .val (.ref b169), .unset, .unset, .unset, .unset] [(.int d0), (.int (0 : Int32)), (.ref b169)])) rfl rfl (hb hby at_149)
    have N171 := Fr.snoc X171 N168 g_b169
    have K171 : Keep h0 h171 [] := K169.wr W171 (Or.inr sz_b169)
    have V171 : Arv Z h171 b169 k169 .int (3 : Int32) [(.int d0), (.int (0 : Int32)), (.int (0 : Int32))] (.int (0 : Int32)) := Arv.set Ar171 q171 S171 M171 Ha171 G171 rfl W171 0 rfl (Nat.le_of_ble_eq_true rfl)
    refine own_go st171 ?_
    show own_Fin p.tables e below (T171.setTop (mkF m 150 #[.val (.int p0), .val (.int p1), .val (.int p2), .val (.int p3), .val (.int p4), .val (.int (3 : Int32)), .val (.int d0), .val (.int d1), .val (.int d2), .val (.ref b154), .val (.ref b169), .unset, .unset, .unset, .unset] [])) _
    refine own_go (B := T171.setTop (mkF m 161 #[.val (.int p0), .val (.int p1), .val (.int p2), .val (.int p3), .val (.int p4), .val (.int (3 : Int32)), .val (.int d0), .val (.int d1), .val (.int d2), .val (.ref b154), .val (.ref b169), .unset, .unset, .unset, .unset] [(.int d1), (.int (1 : Int32)), (.ref b169)])) (fun t k => ?_) ?_
    · show Steps p.tables e below (T171.setTop (mkF m 150 #[.val (.int p0), .val (.int p1), .val (.int p2), .val (.int p3), .val (.int p4), .val (.int (3 : Int32)), .val (.int d0), .val (.int d1), .val (.int d2), .val (.ref b154), .val (.ref b169), .unset, .unset, .unset, .unset] [])) t
      refine XS.iload X171.here hx rfl (hb hby at_150) rfl ?_
      refine XS.iconst X171.here hx rfl (hb hby at_152) ?_
      refine XS.icmpNo X171.here hx rfl (hb hby at_153) rfl (tlt (by decide : (1 : Int32) < (3 : Int32))).2.2.2 ?_
      refine XS.aload X171.here hx rfl (hb hby at_156) rfl rfl ?_
      show Steps p.tables e below (T171.setTop (mkF m 158 #[.val (.int p0), .val (.int p1), .val (.int p2), .val (.int p3), .val (.int p4), .val (.int (3 : Int32)), .val (.int d0), .val (.int d1), .val (.int d2), .val (.ref b154), .val (.ref b169), .unset, .unset, .unset, .unset] [(.ref b169)])) t
      refine XS.iconst X171.here hx rfl (hb hby at_158) ?_
      refine XS.iload X171.here hx rfl (hb hby at_159) rfl ?_
      exact k
    obtain ⟨cl172, Ar172, q172, S172, M172, Ha172, G172⟩ := id V171
    have hin172 : ¬ ((1 : Int32) < 0 ∨ cl172.slots.size ≤ ((1 : Int32)).toNatClampNeg) := inb_of S172 ⟨by decide, by decide⟩
    obtain ⟨T172, h172, X172, e172, W172, st172⟩ := stI X171 hx hZ e171 Ar172 (j := (1 : Int32)) hin172 (g := (mkF m 161 #[.val (.int p0), .val (.int p1), .val (.int p2), .val (.int p3), .val (.int p4), .val (.int (3 : Int32)), .val (.int d0), .val (.int d1), .val (.int d2), .val (.ref b154), .val (.ref b169), .unset, .unset, .unset, .unset] [(.int d1), (.int (1 : Int32)), (.ref b169)])) rfl rfl (hb hby at_161)
    have N172 := Fr.snoc X172 N171 g_b169
    have K172 : Keep h0 h172 [] := K171.wr W172 (Or.inr sz_b169)
    have V172 : Arv Z h172 b169 k169 .int (3 : Int32) [(.int d0), (.int d1), (.int (0 : Int32))] (.int (0 : Int32)) := Arv.set Ar172 q172 S172 M172 Ha172 G172 rfl W172 1 rfl (Nat.le_of_ble_eq_true rfl)
    refine own_go st172 ?_
    show own_Fin p.tables e below (T172.setTop (mkF m 162 #[.val (.int p0), .val (.int p1), .val (.int p2), .val (.int p3), .val (.int p4), .val (.int (3 : Int32)), .val (.int d0), .val (.int d1), .val (.int d2), .val (.ref b154), .val (.ref b169), .unset, .unset, .unset, .unset] [])) _
    refine own_go (B := T172.setTop (mkF m 173 #[.val (.int p0), .val (.int p1), .val (.int p2), .val (.int p3), .val (.int p4), .val (.int (3 : Int32)), .val (.int d0), .val (.int d1), .val (.int d2), .val (.ref b154), .val (.ref b169), .unset, .unset, .unset, .unset] [(.int d2), (.int (2 : Int32)), (.ref b169)])) (fun t k => ?_) ?_
    · show Steps p.tables e below (T172.setTop (mkF m 162 #[.val (.int p0), .val (.int p1), .val (.int p2), .val (.int p3), .val (.int p4), .val (.int (3 : Int32)), .val (.int d0), .val (.int d1), .val (.int d2), .val (.ref b154), .val (.ref b169), .unset, .unset, .unset, .unset] [])) t
      refine XS.iload X172.here hx rfl (hb hby at_162) rfl ?_
      refine XS.iconst X172.here hx rfl (hb hby at_164) ?_
      refine XS.icmpNo X172.here hx rfl (hb hby at_165) rfl (tlt (by decide : (2 : Int32) < (3 : Int32))).2.2.2 ?_
      refine XS.aload X172.here hx rfl (hb hby at_168) rfl rfl ?_
      show Steps p.tables e below (T172.setTop (mkF m 170 #[.val (.int p0), .val (.int p1), .val (.int p2), .val (.int p3), .val (.int p4), .val (.int (3 : Int32)), .val (.int d0), .val (.int d1), .val (.int d2), .val (.ref b154), .val (.ref b169), .unset, .unset, .unset, .unset] [(.ref b169)])) t
      refine XS.iconst X172.here hx rfl (hb hby at_170) ?_
      refine XS.iload X172.here hx rfl (hb hby at_171) rfl ?_
      exact k
    obtain ⟨cl173, Ar173, q173, S173, M173, Ha173, G173⟩ := id V172
    have hin173 : ¬ ((2 : Int32) < 0 ∨ cl173.slots.size ≤ ((2 : Int32)).toNatClampNeg) := inb_of S173 ⟨by decide, by decide⟩
    obtain ⟨T173, h173, X173, e173, W173, st173⟩ := stI X172 hx hZ e172 Ar173 (j := (2 : Int32)) hin173 (g := (mkF m 173 #[.val (.int p0), .val (.int p1), .val (.int p2), .val (.int p3), .val (.int p4), .val (.int (3 : Int32)), .val (.int d0), .val (.int d1), .val (.int d2), .val (.ref b154), .val (.ref b169), .unset, .unset, .unset, .unset] [(.int d2), (.int (2 : Int32)), (.ref b169)])) rfl rfl (hb hby at_173)
    have N173 := Fr.snoc X173 N172 g_b169
    have K173 : Keep h0 h173 [] := K172.wr W173 (Or.inr sz_b169)
    have V173 : Arv Z h173 b169 k169 .int (3 : Int32) [(.int d0), (.int d1), (.int d2)] (.int (0 : Int32)) := Arv.set Ar173 q173 S173 M173 Ha173 G173 rfl W173 2 rfl (Nat.le_of_ble_eq_true rfl)
    refine own_go st173 ?_
    show own_Fin p.tables e below (T173.setTop (mkF m 174 #[.val (.int p0), .val (.int p1), .val (.int p2), .val (.int p3), .val (.int p4), .val (.int (3 : Int32)), .val (.int d0), .val (.int d1), .val (.int d2), .val (.ref b154), .val (.ref b169), .unset, .unset, .unset, .unset] [])) _
    refine own_go (B := T173.setTop (mkF m 178 #[.val (.int p0), .val (.int p1), .val (.int p2), .val (.int p3), .val (.int p4), .val (.int (3 : Int32)), .val (.int d0), .val (.int d1), .val (.int d2), .val (.ref b154), .val (.ref b169), .unset, .unset, .unset, .unset] [(.ref b154), (.ref b169)])) (fun t k => ?_) ?_
    · show Steps p.tables e below (T173.setTop (mkF m 174 #[.val (.int p0), .val (.int p1), .val (.int p2), .val (.int p3), .val (.int p4), .val (.int (3 : Int32)), .val (.int d0), .val (.int d1), .val (.int d2), .val (.ref b154), .val (.ref b169), .unset, .unset, .unset, .unset] [])) t
      refine XS.aload X173.here hx rfl (hb hby at_174) rfl rfl ?_
      refine XS.aload X173.here hx rfl (hb hby at_176) rfl rfl ?_
      exact k
    have f175 := ((((V168.ext E169).other W171 ne170).other W172 ne170).other W173 ne170)
    have f176 := (((((((((((EA154.wr W156).wr W158).wr W160).wr W162).wr W164).wr W166).wr W168).ext E169).wr W171).wr W172).wr W173)
    obtain ⟨_, _, ⟨T174, L174, k174, n174⟩, -, X174, ⟨Lc174, hQ174, l174, y174, z174⟩, st174⟩ := Jvm.LawKit.callS X173 hx (y := (⟨"com/example/rollhaus/rollhaus/dice/Faces", "among", "([I[I)Z"⟩ : MethodName)) hown (mvT hZ (hw _ (List.mem_of_getElem? (i := 5) rfl))) (mvT hZ (hw _ (List.mem_of_getElem? (i := 6) rfl))) (mvT hZ (hw _ (List.mem_of_getElem? (i := 7) rfl))) (mvT hZ (hw _ (List.mem_of_getElem? (i := 8) rfl))) (by decide) (backOf (W := 0) (rm3 l Z a0 hw [] b169 b154 k169 k154 3 [d0, d1, d2] [(own_cnt p4 (0 : Int32)), (own_cnt p4 (1 : Int32)), (own_cnt p4 (2 : Int32)), (own_cnt p4 (3 : Int32)), (own_cnt p4 (4 : Int32)), (own_cnt p4 (5 : Int32)), (own_cnt p4 (6 : Int32))] h173 n0 (Nat.le_trans Z0 K173.1) V173 f175 f176 rfl (by decide) rfl) hZ (hw _ (List.mem_of_getElem? (i := 8) rfl)) (hw _ (List.mem_of_getElem? (i := 7) rfl)) (by decide) (by decide)) (g := (mkF m 178 #[.val (.int p0), .val (.int p1), .val (.int p2), .val (.int p3), .val (.int p4), .val (.int (3 : Int32)), .val (.int d0), .val (.int d1), .val (.int d2), .val (.ref b154), .val (.ref b169), .unset, .unset, .unset, .unset] [(.ref b154), (.ref b169)])) rfl (by rw [hml]; rfl) (argsL := [(.ref b169), (.ref b154)]) (rest := []) (lenOf pd0_1 rfl) rfl (by show 2 * 0 + _ ≤ _; exact Nat.le_of_eq rfl) (hb hby at_178) (fun _ _ => ⟨rfl, e173, (by decide : 2 + 1 ≤ _), (by decide : 10 + 7 ≤ _)⟩)
    dsimp only [Pt.U, Pt.locs, Pt.cells, Pt.slots] at X174 l174 y174 z174 st174 hQ174
    subst y174 z174
    have X174 : Stand p l e room_1 s m #[(.int p0), (.int p1), (.int p2), (.int p3), (.int p4)] below meth c T174 _ 3 17 := X174
    obtain ⟨rfl, N174q, Kq174⟩ := hQ174
    have N174 : Fr n0 L174 := by rw [l174]; exact Fr.app N173 N174q
    have K174 : Keep h0 T174.heap [] := K173.trans Kq174 all0
    refine own_go (st174) ?_
    show own_Fin p.tables e below (T174.setTop (mkF m 181 #[.val (.int p0), .val (.int p1), .val (.int p2), .val (.int p3), .val (.int p4), .val (.int (3 : Int32)), .val (.int d0), .val (.int d1), .val (.int d2), .val (.ref b154), .val (.ref b169), .unset, .unset, .unset, .unset] [(.int (own_am [d0, d1, d2] [(own_cnt p4 (0 : Int32)), (own_cnt p4 (1 : Int32)), (own_cnt p4 (2 : Int32)), (own_cnt p4 (3 : Int32)), (own_cnt p4 (4 : Int32)), (own_cnt p4 (5 : Int32)), (own_cnt p4 (6 : Int32))]))])) _
    refine own_go (B := T174.setTop (mkF m 194 #[.val (.int p0), .val (.int p1), .val (.int p2), .val (.int p3), .val (.int p4), .val (.int (3 : Int32)), .val (.int d0), .val (.int d1), .val (.int d2), .val (.ref b154), .val (.ref b169), .val (.int (own_am [d0, d1, d2] [(own_cnt p4 (0 : Int32)), (own_cnt p4 (1 : Int32)), (own_cnt p4 (2 : Int32)), (own_cnt p4 (3 : Int32)), (own_cnt p4 (4 : Int32)), (own_cnt p4 (5 : Int32)), (own_cnt p4 (6 : Int32))])), .unset, .unset, .unset] [(.int p4), (.int d2), (.int d1), (.int d0), (.int (3 : Int32)), (.int (0 : Int32))])) (fun t k => ?_) ?_
    · show Steps p.tables e below (T174.setTop (mkF m 181 #[.val (.int p0), .val (.int p1), .val (.int p2), .val (.int p3), .val (.int p4), .val (.int (3 : Int32)), .val (.int d0), .val (.int d1), .val (.int d2), .val (.ref b154), .val (.ref b169), .unset, .unset, .unset, .unset] [(.int (own_am [d0, d1, d2] [(own_cnt p4 (0 : Int32)), (own_cnt p4 (1 : Int32)), (own_cnt p4 (2 : Int32)), (own_cnt p4 (3 : Int32)), (own_cnt p4 (4 : Int32)), (own_cnt p4 (5 : Int32)), (own_cnt p4 (6 : Int32))]))])) t
      refine XS.istore X174.here hx rfl (hb hby at_181) rfl (l' := #[.val (.int p0), .val (.int p1), .val (.int p2), .val (.int p3), .val (.int p4), .val (.int (3 : Int32)), .val (.int d0), .val (.int d1), .val (.int d2), .val (.ref b154), .val (.ref b169), .val (.int (own_am [d0, d1, d2] [(own_cnt p4 (0 : Int32)), (own_cnt p4 (1 : Int32)), (own_cnt p4 (2 : Int32)), (own_cnt p4 (3 : Int32)), (own_cnt p4 (4 : Int32)), (own_cnt p4 (5 : Int32)), (own_cnt p4 (6 : Int32))])), .unset, .unset, .unset]) rfl ?_
      refine XS.iconst X174.here hx rfl (hb hby at_183) ?_
      refine XS.iload X174.here hx rfl (hb hby at_184) rfl ?_
      refine XS.iload X174.here hx rfl (hb hby at_186) rfl ?_
      show Steps p.tables e below (T174.setTop (mkF m 188 #[.val (.int p0), .val (.int p1), .val (.int p2), .val (.int p3), .val (.int p4), .val (.int (3 : Int32)), .val (.int d0), .val (.int d1), .val (.int d2), .val (.ref b154), .val (.ref b169), .val (.int (own_am [d0, d1, d2] [(own_cnt p4 (0 : Int32)), (own_cnt p4 (1 : Int32)), (own_cnt p4 (2 : Int32)), (own_cnt p4 (3 : Int32)), (own_cnt p4 (4 : Int32)), (own_cnt p4 (5 : Int32)), (own_cnt p4 (6 : Int32))])), .unset, .unset, .unset] [(.int d0), (.int (3 : Int32)), (.int (0 : Int32))])) t
      refine XS.iload X174.here hx rfl (hb hby at_188) rfl ?_
      refine XS.iload X174.here hx rfl (hb hby at_190) rfl ?_
      refine XS.iload X174.here hx rfl (hb hby at_192) rfl ?_
      exact k
    obtain ⟨_, _, ⟨T177, L177, k177, n177⟩, -, X177, ⟨Lc177, hQ177, l177, y177, z177⟩, st177⟩ := Jvm.LawKit.callS X174 hx (y := (⟨"com/example/rollhaus/rollhaus/dice/FacesAmongPinLaw", "fits", "(IIIIII)Z"⟩ : MethodName)) hown (mvT hZ (hw _ (List.mem_of_getElem? (i := 18) rfl))) (mvT hZ (hw _ (List.mem_of_getElem? (i := 19) rfl))) (mvT hZ (hw _ (List.mem_of_getElem? (i := 3) rfl))) (mvT hZ (hw _ (List.mem_of_getElem? (i := 20) rfl))) (by decide) (backOf (W := 0) (rm2 l Z a0 hw [] (0 : Int32) (3 : Int32) d0 d1 d2 p4  T174.heap n0 (Nat.le_trans Z0 K174.1) ) hZ (hw _ (List.mem_of_getElem? (i := 20) rfl)) (hw _ (List.mem_of_getElem? (i := 3) rfl)) (by decide) (by decide)) (g := (mkF m 194 #[.val (.int p0), .val (.int p1), .val (.int p2), .val (.int p3), .val (.int p4), .val (.int (3 : Int32)), .val (.int d0), .val (.int d1), .val (.int d2), .val (.ref b154), .val (.ref b169), .val (.int (own_am [d0, d1, d2] [(own_cnt p4 (0 : Int32)), (own_cnt p4 (1 : Int32)), (own_cnt p4 (2 : Int32)), (own_cnt p4 (3 : Int32)), (own_cnt p4 (4 : Int32)), (own_cnt p4 (5 : Int32)), (own_cnt p4 (6 : Int32))])), .unset, .unset, .unset] [(.int p4), (.int d2), (.int d1), (.int d0), (.int (3 : Int32)), (.int (0 : Int32))])) rfl (by rw [hml]; rfl) (argsL := [(.int (0 : Int32)), (.int (3 : Int32)), (.int d0), (.int d1), (.int d2), (.int p4)]) (rest := []) (lenOf pd0_2 rfl) rfl (by show 2 * 0 + _ ≤ _; exact Nat.le_of_eq rfl) (hb hby at_194) (fun _ _ => ⟨rfl, rfl, (by decide : 3 + 0 ≤ _), (by decide : 17 + 0 ≤ _)⟩)
    dsimp only [Pt.U, Pt.locs, Pt.cells, Pt.slots] at X177 l177 y177 z177 st177 hQ177
    subst y177 z177
    have X177 : Stand p l e room_1 s m #[(.int p0), (.int p1), (.int p2), (.int p3), (.int p4)] below meth c T177 _ 3 17 := X177
    obtain ⟨rfl, N177q, e177⟩ := hQ177
    have N177 : Fr n0 L177 := by rw [l177]; exact Fr.app N174 N177q
    refine own_go (st177) ?_
    show own_Fin p.tables e below (T177.setTop (mkF m 197 #[.val (.int p0), .val (.int p1), .val (.int p2), .val (.int p3), .val (.int p4), .val (.int (3 : Int32)), .val (.int d0), .val (.int d1), .val (.int d2), .val (.ref b154), .val (.ref b169), .val (.int (own_am [d0, d1, d2] [(own_cnt p4 (0 : Int32)), (own_cnt p4 (1 : Int32)), (own_cnt p4 (2 : Int32)), (own_cnt p4 (3 : Int32)), (own_cnt p4 (4 : Int32)), (own_cnt p4 (5 : Int32)), (own_cnt p4 (6 : Int32))])), .unset, .unset, .unset] [(.int (own_fits (0 : Int32) (3 : Int32) d0 d1 d2 p4))])) _
    have joinJ : ∀ (TJ : State) (locsJ : List Loc) (XJ : Stand p l e room_1 s m #[(.int p0), (.int p1), (.int p2), (.int p3), (.int p4)] below meth c TJ locsJ 3 17) (eJ : TJ.heap = T174.heap) (NJ : Fr n0 locsJ) (ex : Int32) (hex : (own_am [d0, d1, d2] [(own_cnt p4 (0 : Int32)), (own_cnt p4 (1 : Int32)), (own_cnt p4 (2 : Int32)), (own_cnt p4 (3 : Int32)), (own_cnt p4 (4 : Int32)), (own_cnt p4 (5 : Int32)), (own_cnt p4 (6 : Int32))]) = ex), own_Fin p.tables e below (TJ.setTop (mkF m 239 #[.val (.int p0), .val (.int p1), .val (.int p2), .val (.int p3), .val (.int p4), .val (.int (3 : Int32)), .val (.int d0), .val (.int d1), .val (.int d2), .val (.ref b154), .val (.ref b169), .val (.int (own_am [d0, d1, d2] [(own_cnt p4 (0 : Int32)), (own_cnt p4 (1 : Int32)), (own_cnt p4 (2 : Int32)), (own_cnt p4 (3 : Int32)), (own_cnt p4 (4 : Int32)), (own_cnt p4 (5 : Int32)), (own_cnt p4 (6 : Int32))])), .unset, .unset, .unset] [(.int ex)])) (fun s₂ o => s₂.status = .running ∧ Ended s₂ below o ∧ ∃ v L, o = .returned v ∧ Q0 Z p0 p1 p2 p3 p4 h0 n0 v s₂.heap L ∧ FrameEnd s o s₂ L room_1.cells room_1.slots) := by
      intro TJ locsJ XJ eJ NJ ex hex
      refine own_go (B := TJ.setTop (mkF m 244 #[.val (.int p0), .val (.int p1), .val (.int p2), .val (.int p3), .val (.int p4), .val (.int (3 : Int32)), .val (.int d0), .val (.int d1), .val (.int d2), .val (.ref b154), .val (.ref b169), .val (.int (own_am [d0, d1, d2] [(own_cnt p4 (0 : Int32)), (own_cnt p4 (1 : Int32)), (own_cnt p4 (2 : Int32)), (own_cnt p4 (3 : Int32)), (own_cnt p4 (4 : Int32)), (own_cnt p4 (5 : Int32)), (own_cnt p4 (6 : Int32))])), .val (.int ex), .unset, .unset] [(.int (0 : Int32)), (.ref b154)])) (fun t k => ?_) ?_
      · show Steps p.tables e below (TJ.setTop (mkF m 239 #[.val (.int p0), .val (.int p1), .val (.int p2), .val (.int p3), .val (.int p4), .val (.int (3 : Int32)), .val (.int d0), .val (.int d1), .val (.int d2), .val (.ref b154), .val (.ref b169), .val (.int (own_am [d0, d1, d2] [(own_cnt p4 (0 : Int32)), (own_cnt p4 (1 : Int32)), (own_cnt p4 (2 : Int32)), (own_cnt p4 (3 : Int32)), (own_cnt p4 (4 : Int32)), (own_cnt p4 (5 : Int32)), (own_cnt p4 (6 : Int32))])), .unset, .unset, .unset] [(.int ex)])) t
        refine XS.istore XJ.here hx rfl (hb hby at_239) rfl (l' := #[.val (.int p0), .val (.int p1), .val (.int p2), .val (.int p3), .val (.int p4), .val (.int (3 : Int32)), .val (.int d0), .val (.int d1), .val (.int d2), .val (.ref b154), .val (.ref b169), .val (.int (own_am [d0, d1, d2] [(own_cnt p4 (0 : Int32)), (own_cnt p4 (1 : Int32)), (own_cnt p4 (2 : Int32)), (own_cnt p4 (3 : Int32)), (own_cnt p4 (4 : Int32)), (own_cnt p4 (5 : Int32)), (own_cnt p4 (6 : Int32))])), .val (.int ex), .unset, .unset]) rfl ?_
        refine XS.aload XJ.here hx rfl (hb hby at_241) rfl rfl ?_
        refine XS.iconst XJ.here hx rfl (hb hby at_243) ?_
        exact k
      have f179 := (f175.keep Kq174 nin0)
      obtain ⟨cl178, Ar178, -, S178, M178, Ha178, G178⟩ := id f179
      have hin178 : ¬ ((0 : Int32) < 0 ∨ cl178.slots.size ≤ ((0 : Int32)).toNatClampNeg) := inb_of S178 ⟨by decide, by decide⟩
      have hat178 : cl178.slots[((0 : Int32)).toNatClampNeg]? = some (.int (own_cnt p4 (0 : Int32))) := Has.at Ha178 hin178 rfl
      refine own_go (B := TJ.setTop (mkF m 245 #[.val (.int p0), .val (.int p1), .val (.int p2), .val (.int p3), .val (.int p4), .val (.int (3 : Int32)), .val (.int d0), .val (.int d1), .val (.int d2), .val (.ref b154), .val (.ref b169), .val (.int (own_am [d0, d1, d2] [(own_cnt p4 (0 : Int32)), (own_cnt p4 (1 : Int32)), (own_cnt p4 (2 : Int32)), (own_cnt p4 (3 : Int32)), (own_cnt p4 (4 : Int32)), (own_cnt p4 (5 : Int32)), (own_cnt p4 (6 : Int32))])), .val (.int ex), .unset, .unset] [(.int (own_cnt p4 (0 : Int32)))])) (fun t k => ?_) ?_
      · exact XJ.iaload hx (j := (0 : Int32)) (v := (.int (own_cnt p4 (0 : Int32)))) (by rw [eJ]; exact Ar178.1) (State.isArrayOf_alike hZ.alike Ar178.2.1) Ar178.2.2 hin178 hat178 (g := (mkF m 244 #[.val (.int p0), .val (.int p1), .val (.int p2), .val (.int p3), .val (.int p4), .val (.int (3 : Int32)), .val (.int d0), .val (.int d1), .val (.int d2), .val (.ref b154), .val (.ref b169), .val (.int (own_am [d0, d1, d2] [(own_cnt p4 (0 : Int32)), (own_cnt p4 (1 : Int32)), (own_cnt p4 (2 : Int32)), (own_cnt p4 (3 : Int32)), (own_cnt p4 (4 : Int32)), (own_cnt p4 (5 : Int32)), (own_cnt p4 (6 : Int32))])), .val (.int ex), .unset, .unset] [(.int (0 : Int32)), (.ref b154)])) rfl rfl (hb hby at_244) _ k
      refine own_go (B := TJ.setTop (mkF m 248 #[.val (.int p0), .val (.int p1), .val (.int p2), .val (.int p3), .val (.int p4), .val (.int (3 : Int32)), .val (.int d0), .val (.int d1), .val (.int d2), .val (.ref b154), .val (.ref b169), .val (.int (own_am [d0, d1, d2] [(own_cnt p4 (0 : Int32)), (own_cnt p4 (1 : Int32)), (own_cnt p4 (2 : Int32)), (own_cnt p4 (3 : Int32)), (own_cnt p4 (4 : Int32)), (own_cnt p4 (5 : Int32)), (own_cnt p4 (6 : Int32))])), .val (.int ex), .unset, .unset] [(.int (0 : Int32)), (.int p4), (.int (own_cnt p4 (0 : Int32)))])) (fun t k => ?_) ?_
      · show Steps p.tables e below (TJ.setTop (mkF m 245 #[.val (.int p0), .val (.int p1), .val (.int p2), .val (.int p3), .val (.int p4), .val (.int (3 : Int32)), .val (.int d0), .val (.int d1), .val (.int d2), .val (.ref b154), .val (.ref b169), .val (.int (own_am [d0, d1, d2] [(own_cnt p4 (0 : Int32)), (own_cnt p4 (1 : Int32)), (own_cnt p4 (2 : Int32)), (own_cnt p4 (3 : Int32)), (own_cnt p4 (4 : Int32)), (own_cnt p4 (5 : Int32)), (own_cnt p4 (6 : Int32))])), .val (.int ex), .unset, .unset] [(.int (own_cnt p4 (0 : Int32)))])) t
        refine XS.iload XJ.here hx rfl (hb hby at_245) rfl ?_
        refine XS.iconst XJ.here hx rfl (hb hby at_247) ?_
        exact k
      obtain ⟨_, _, ⟨T180, L180, k180, n180⟩, -, X180, ⟨Lc180, hQ180, l180, y180, z180⟩, st180⟩ := Jvm.LawKit.callS XJ hx (y := (⟨"com/example/rollhaus/rollhaus/dice/FacesAmongPinLaw", "cnt", "(II)I"⟩ : MethodName)) hown (mvT hZ (hw _ (List.mem_of_getElem? (i := 1) rfl))) (mvT hZ (hw _ (List.mem_of_getElem? (i := 2) rfl))) (mvT hZ (hw _ (List.mem_of_getElem? (i := 3) rfl))) (mvT hZ (hw _ (List.mem_of_getElem? (i := 4) rfl))) (by decide) (backOf (W := 1) (rm1 l Z a0 hw [] p4 (0 : Int32)  T174.heap n0 (Nat.le_trans Z0 K174.1) ) hZ (hw _ (List.mem_of_getElem? (i := 4) rfl)) (hw _ (List.mem_of_getElem? (i := 3) rfl)) (by decide) (by decide)) (g := (mkF m 248 #[.val (.int p0), .val (.int p1), .val (.int p2), .val (.int p3), .val (.int p4), .val (.int (3 : Int32)), .val (.int d0), .val (.int d1), .val (.int d2), .val (.ref b154), .val (.ref b169), .val (.int (own_am [d0, d1, d2] [(own_cnt p4 (0 : Int32)), (own_cnt p4 (1 : Int32)), (own_cnt p4 (2 : Int32)), (own_cnt p4 (3 : Int32)), (own_cnt p4 (4 : Int32)), (own_cnt p4 (5 : Int32)), (own_cnt p4 (6 : Int32))])), .val (.int ex), .unset, .unset] [(.int (0 : Int32)), (.int p4), (.int (own_cnt p4 (0 : Int32)))])) rfl (by rw [hml]; rfl) (argsL := [(.int p4), (.int (0 : Int32))]) (rest := [(.int (own_cnt p4 (0 : Int32)))]) (lenOf pd0_0 rfl) rfl (by show 2 * 0 + _ ≤ _; exact Nat.le_of_eq rfl) (hb hby at_248) (fun _ _ => ⟨rfl, eJ, (by decide : 3 + 0 ≤ _), (by decide : 17 + 0 ≤ _)⟩)
      dsimp only [Pt.U, Pt.locs, Pt.cells, Pt.slots] at X180 l180 y180 z180 st180 hQ180
      subst y180 z180
      have X180 : Stand p l e room_1 s m #[(.int p0), (.int p1), (.int p2), (.int p3), (.int p4)] below meth c T180 _ 3 17 := X180
      obtain ⟨rfl, N180q, e180⟩ := hQ180
      have N180 : Fr n0 L180 := by rw [l180]; exact Fr.app NJ N180q
      refine own_go (st180) ?_
      show own_Fin p.tables e below (T180.setTop (mkF m 251 #[.val (.int p0), .val (.int p1), .val (.int p2), .val (.int p3), .val (.int p4), .val (.int (3 : Int32)), .val (.int d0), .val (.int d1), .val (.int d2), .val (.ref b154), .val (.ref b169), .val (.int (own_am [d0, d1, d2] [(own_cnt p4 (0 : Int32)), (own_cnt p4 (1 : Int32)), (own_cnt p4 (2 : Int32)), (own_cnt p4 (3 : Int32)), (own_cnt p4 (4 : Int32)), (own_cnt p4 (5 : Int32)), (own_cnt p4 (6 : Int32))])), .val (.int ex), .unset, .unset] [(.int (own_cnt p4 (0 : Int32))), (.int (own_cnt p4 (0 : Int32)))])) _
      refine own_go (B := T180.setTop (mkF m 257 #[.val (.int p0), .val (.int p1), .val (.int p2), .val (.int p3), .val (.int p4), .val (.int (3 : Int32)), .val (.int d0), .val (.int d1), .val (.int d2), .val (.ref b154), .val (.ref b169), .val (.int (own_am [d0, d1, d2] [(own_cnt p4 (0 : Int32)), (own_cnt p4 (1 : Int32)), (own_cnt p4 (2 : Int32)), (own_cnt p4 (3 : Int32)), (own_cnt p4 (4 : Int32)), (own_cnt p4 (5 : Int32)), (own_cnt p4 (6 : Int32))])), .val (.int ex), .unset, .unset] [(.int (1 : Int32)), (.ref b154)])) (fun t k => ?_) ?_
      · show Steps p.tables e below (T180.setTop (mkF m 251 #[.val (.int p0), .val (.int p1), .val (.int p2), .val (.int p3), .val (.int p4), .val (.int (3 : Int32)), .val (.int d0), .val (.int d1), .val (.int d2), .val (.ref b154), .val (.ref b169), .val (.int (own_am [d0, d1, d2] [(own_cnt p4 (0 : Int32)), (own_cnt p4 (1 : Int32)), (own_cnt p4 (2 : Int32)), (own_cnt p4 (3 : Int32)), (own_cnt p4 (4 : Int32)), (own_cnt p4 (5 : Int32)), (own_cnt p4 (6 : Int32))])), .val (.int ex), .unset, .unset] [(.int (own_cnt p4 (0 : Int32))), (.int (own_cnt p4 (0 : Int32)))])) t
        refine XS.icmpNo X180.here hx rfl (hb hby at_251) rfl (teq (rfl : (own_cnt p4 (0 : Int32)) = (own_cnt p4 (0 : Int32)))).2 ?_
        refine XS.aload X180.here hx rfl (hb hby at_254) rfl rfl ?_
        refine XS.iconst X180.here hx rfl (hb hby at_256) ?_
        exact k
      obtain ⟨cl181, Ar181, -, S181, M181, Ha181, G181⟩ := id f179
      have hin181 : ¬ ((1 : Int32) < 0 ∨ cl181.slots.size ≤ ((1 : Int32)).toNatClampNeg) := inb_of S181 ⟨by decide, by decide⟩
      have hat181 : cl181.slots[((1 : Int32)).toNatClampNeg]? = some (.int (own_cnt p4 (1 : Int32))) := Has.at Ha181 hin181 rfl
      refine own_go (B := T180.setTop (mkF m 258 #[.val (.int p0), .val (.int p1), .val (.int p2), .val (.int p3), .val (.int p4), .val (.int (3 : Int32)), .val (.int d0), .val (.int d1), .val (.int d2), .val (.ref b154), .val (.ref b169), .val (.int (own_am [d0, d1, d2] [(own_cnt p4 (0 : Int32)), (own_cnt p4 (1 : Int32)), (own_cnt p4 (2 : Int32)), (own_cnt p4 (3 : Int32)), (own_cnt p4 (4 : Int32)), (own_cnt p4 (5 : Int32)), (own_cnt p4 (6 : Int32))])), .val (.int ex), .unset, .unset] [(.int (own_cnt p4 (1 : Int32)))])) (fun t k => ?_) ?_
      · exact X180.iaload hx (j := (1 : Int32)) (v := (.int (own_cnt p4 (1 : Int32)))) (by rw [e180]; exact Ar181.1) (State.isArrayOf_alike hZ.alike Ar181.2.1) Ar181.2.2 hin181 hat181 (g := (mkF m 257 #[.val (.int p0), .val (.int p1), .val (.int p2), .val (.int p3), .val (.int p4), .val (.int (3 : Int32)), .val (.int d0), .val (.int d1), .val (.int d2), .val (.ref b154), .val (.ref b169), .val (.int (own_am [d0, d1, d2] [(own_cnt p4 (0 : Int32)), (own_cnt p4 (1 : Int32)), (own_cnt p4 (2 : Int32)), (own_cnt p4 (3 : Int32)), (own_cnt p4 (4 : Int32)), (own_cnt p4 (5 : Int32)), (own_cnt p4 (6 : Int32))])), .val (.int ex), .unset, .unset] [(.int (1 : Int32)), (.ref b154)])) rfl rfl (hb hby at_257) _ k
      refine own_go (B := T180.setTop (mkF m 261 #[.val (.int p0), .val (.int p1), .val (.int p2), .val (.int p3), .val (.int p4), .val (.int (3 : Int32)), .val (.int d0), .val (.int d1), .val (.int d2), .val (.ref b154), .val (.ref b169), .val (.int (own_am [d0, d1, d2] [(own_cnt p4 (0 : Int32)), (own_cnt p4 (1 : Int32)), (own_cnt p4 (2 : Int32)), (own_cnt p4 (3 : Int32)), (own_cnt p4 (4 : Int32)), (own_cnt p4 (5 : Int32)), (own_cnt p4 (6 : Int32))])), .val (.int ex), .unset, .unset] [(.int (1 : Int32)), (.int p4), (.int (own_cnt p4 (1 : Int32)))])) (fun t k => ?_) ?_
      · show Steps p.tables e below (T180.setTop (mkF m 258 #[.val (.int p0), .val (.int p1), .val (.int p2), .val (.int p3), .val (.int p4), .val (.int (3 : Int32)), .val (.int d0), .val (.int d1), .val (.int d2), .val (.ref b154), .val (.ref b169), .val (.int (own_am [d0, d1, d2] [(own_cnt p4 (0 : Int32)), (own_cnt p4 (1 : Int32)), (own_cnt p4 (2 : Int32)), (own_cnt p4 (3 : Int32)), (own_cnt p4 (4 : Int32)), (own_cnt p4 (5 : Int32)), (own_cnt p4 (6 : Int32))])), .val (.int ex), .unset, .unset] [(.int (own_cnt p4 (1 : Int32)))])) t
        refine XS.iload X180.here hx rfl (hb hby at_258) rfl ?_
        refine XS.iconst X180.here hx rfl (hb hby at_260) ?_
        exact k
      obtain ⟨_, _, ⟨T182, L182, k182, n182⟩, -, X182, ⟨Lc182, hQ182, l182, y182, z182⟩, st182⟩ := Jvm.LawKit.callS X180 hx (y := (⟨"com/example/rollhaus/rollhaus/dice/FacesAmongPinLaw", "cnt", "(II)I"⟩ : MethodName)) hown (mvT hZ (hw _ (List.mem_of_getElem? (i := 1) rfl))) (mvT hZ (hw _ (List.mem_of_getElem? (i := 2) rfl))) (mvT hZ (hw _ (List.mem_of_getElem? (i := 3) rfl))) (mvT hZ (hw _ (List.mem_of_getElem? (i := 4) rfl))) (by decide) (backOf (W := 1) (rm1 l Z a0 hw [] p4 (1 : Int32)  T174.heap n0 (Nat.le_trans Z0 K174.1) ) hZ (hw _ (List.mem_of_getElem? (i := 4) rfl)) (hw _ (List.mem_of_getElem? (i := 3) rfl)) (by decide) (by decide)) (g := (mkF m 261 #[.val (.int p0), .val (.int p1), .val (.int p2), .val (.int p3), .val (.int p4), .val (.int (3 : Int32)), .val (.int d0), .val (.int d1), .val (.int d2), .val (.ref b154), .val (.ref b169), .val (.int (own_am [d0, d1, d2] [(own_cnt p4 (0 : Int32)), (own_cnt p4 (1 : Int32)), (own_cnt p4 (2 : Int32)), (own_cnt p4 (3 : Int32)), (own_cnt p4 (4 : Int32)), (own_cnt p4 (5 : Int32)), (own_cnt p4 (6 : Int32))])), .val (.int ex), .unset, .unset] [(.int (1 : Int32)), (.int p4), (.int (own_cnt p4 (1 : Int32)))])) rfl (by rw [hml]; rfl) (argsL := [(.int p4), (.int (1 : Int32))]) (rest := [(.int (own_cnt p4 (1 : Int32)))]) (lenOf pd0_0 rfl) rfl (by show 2 * 0 + _ ≤ _; exact Nat.le_of_eq rfl) (hb hby at_261) (fun _ _ => ⟨rfl, e180, (by decide : 3 + 0 ≤ _), (by decide : 17 + 0 ≤ _)⟩)
      dsimp only [Pt.U, Pt.locs, Pt.cells, Pt.slots] at X182 l182 y182 z182 st182 hQ182
      subst y182 z182
      have X182 : Stand p l e room_1 s m #[(.int p0), (.int p1), (.int p2), (.int p3), (.int p4)] below meth c T182 _ 3 17 := X182
      obtain ⟨rfl, N182q, e182⟩ := hQ182
      have N182 : Fr n0 L182 := by rw [l182]; exact Fr.app N180 N182q
      refine own_go (st182) ?_
      show own_Fin p.tables e below (T182.setTop (mkF m 264 #[.val (.int p0), .val (.int p1), .val (.int p2), .val (.int p3), .val (.int p4), .val (.int (3 : Int32)), .val (.int d0), .val (.int d1), .val (.int d2), .val (.ref b154), .val (.ref b169), .val (.int (own_am [d0, d1, d2] [(own_cnt p4 (0 : Int32)), (own_cnt p4 (1 : Int32)), (own_cnt p4 (2 : Int32)), (own_cnt p4 (3 : Int32)), (own_cnt p4 (4 : Int32)), (own_cnt p4 (5 : Int32)), (own_cnt p4 (6 : Int32))])), .val (.int ex), .unset, .unset] [(.int (own_cnt p4 (1 : Int32))), (.int (own_cnt p4 (1 : Int32)))])) _
      refine own_go (B := T182.setTop (mkF m 270 #[.val (.int p0), .val (.int p1), .val (.int p2), .val (.int p3), .val (.int p4), .val (.int (3 : Int32)), .val (.int d0), .val (.int d1), .val (.int d2), .val (.ref b154), .val (.ref b169), .val (.int (own_am [d0, d1, d2] [(own_cnt p4 (0 : Int32)), (own_cnt p4 (1 : Int32)), (own_cnt p4 (2 : Int32)), (own_cnt p4 (3 : Int32)), (own_cnt p4 (4 : Int32)), (own_cnt p4 (5 : Int32)), (own_cnt p4 (6 : Int32))])), .val (.int ex), .unset, .unset] [(.int (2 : Int32)), (.ref b154)])) (fun t k => ?_) ?_
      · show Steps p.tables e below (T182.setTop (mkF m 264 #[.val (.int p0), .val (.int p1), .val (.int p2), .val (.int p3), .val (.int p4), .val (.int (3 : Int32)), .val (.int d0), .val (.int d1), .val (.int d2), .val (.ref b154), .val (.ref b169), .val (.int (own_am [d0, d1, d2] [(own_cnt p4 (0 : Int32)), (own_cnt p4 (1 : Int32)), (own_cnt p4 (2 : Int32)), (own_cnt p4 (3 : Int32)), (own_cnt p4 (4 : Int32)), (own_cnt p4 (5 : Int32)), (own_cnt p4 (6 : Int32))])), .val (.int ex), .unset, .unset] [(.int (own_cnt p4 (1 : Int32))), (.int (own_cnt p4 (1 : Int32)))])) t
        refine XS.icmpNo X182.here hx rfl (hb hby at_264) rfl (teq (rfl : (own_cnt p4 (1 : Int32)) = (own_cnt p4 (1 : Int32)))).2 ?_
        refine XS.aload X182.here hx rfl (hb hby at_267) rfl rfl ?_
        refine XS.iconst X182.here hx rfl (hb hby at_269) ?_
        exact k
      obtain ⟨cl183, Ar183, -, S183, M183, Ha183, G183⟩ := id f179
      have hin183 : ¬ ((2 : Int32) < 0 ∨ cl183.slots.size ≤ ((2 : Int32)).toNatClampNeg) := inb_of S183 ⟨by decide, by decide⟩
      have hat183 : cl183.slots[((2 : Int32)).toNatClampNeg]? = some (.int (own_cnt p4 (2 : Int32))) := Has.at Ha183 hin183 rfl
      refine own_go (B := T182.setTop (mkF m 271 #[.val (.int p0), .val (.int p1), .val (.int p2), .val (.int p3), .val (.int p4), .val (.int (3 : Int32)), .val (.int d0), .val (.int d1), .val (.int d2), .val (.ref b154), .val (.ref b169), .val (.int (own_am [d0, d1, d2] [(own_cnt p4 (0 : Int32)), (own_cnt p4 (1 : Int32)), (own_cnt p4 (2 : Int32)), (own_cnt p4 (3 : Int32)), (own_cnt p4 (4 : Int32)), (own_cnt p4 (5 : Int32)), (own_cnt p4 (6 : Int32))])), .val (.int ex), .unset, .unset] [(.int (own_cnt p4 (2 : Int32)))])) (fun t k => ?_) ?_
      · exact X182.iaload hx (j := (2 : Int32)) (v := (.int (own_cnt p4 (2 : Int32)))) (by rw [e182]; exact Ar183.1) (State.isArrayOf_alike hZ.alike Ar183.2.1) Ar183.2.2 hin183 hat183 (g := (mkF m 270 #[.val (.int p0), .val (.int p1), .val (.int p2), .val (.int p3), .val (.int p4), .val (.int (3 : Int32)), .val (.int d0), .val (.int d1), .val (.int d2), .val (.ref b154), .val (.ref b169), .val (.int (own_am [d0, d1, d2] [(own_cnt p4 (0 : Int32)), (own_cnt p4 (1 : Int32)), (own_cnt p4 (2 : Int32)), (own_cnt p4 (3 : Int32)), (own_cnt p4 (4 : Int32)), (own_cnt p4 (5 : Int32)), (own_cnt p4 (6 : Int32))])), .val (.int ex), .unset, .unset] [(.int (2 : Int32)), (.ref b154)])) rfl rfl (hb hby at_270) _ k
      refine own_go (B := T182.setTop (mkF m 274 #[.val (.int p0), .val (.int p1), .val (.int p2), .val (.int p3), .val (.int p4), .val (.int (3 : Int32)), .val (.int d0), .val (.int d1), .val (.int d2), .val (.ref b154), .val (.ref b169), .val (.int (own_am [d0, d1, d2] [(own_cnt p4 (0 : Int32)), (own_cnt p4 (1 : Int32)), (own_cnt p4 (2 : Int32)), (own_cnt p4 (3 : Int32)), (own_cnt p4 (4 : Int32)), (own_cnt p4 (5 : Int32)), (own_cnt p4 (6 : Int32))])), .val (.int ex), .unset, .unset] [(.int (2 : Int32)), (.int p4), (.int (own_cnt p4 (2 : Int32)))])) (fun t k => ?_) ?_
      · show Steps p.tables e below (T182.setTop (mkF m 271 #[.val (.int p0), .val (.int p1), .val (.int p2), .val (.int p3), .val (.int p4), .val (.int (3 : Int32)), .val (.int d0), .val (.int d1), .val (.int d2), .val (.ref b154), .val (.ref b169), .val (.int (own_am [d0, d1, d2] [(own_cnt p4 (0 : Int32)), (own_cnt p4 (1 : Int32)), (own_cnt p4 (2 : Int32)), (own_cnt p4 (3 : Int32)), (own_cnt p4 (4 : Int32)), (own_cnt p4 (5 : Int32)), (own_cnt p4 (6 : Int32))])), .val (.int ex), .unset, .unset] [(.int (own_cnt p4 (2 : Int32)))])) t
        refine XS.iload X182.here hx rfl (hb hby at_271) rfl ?_
        refine XS.iconst X182.here hx rfl (hb hby at_273) ?_
        exact k
      obtain ⟨_, _, ⟨T184, L184, k184, n184⟩, -, X184, ⟨Lc184, hQ184, l184, y184, z184⟩, st184⟩ := Jvm.LawKit.callS X182 hx (y := (⟨"com/example/rollhaus/rollhaus/dice/FacesAmongPinLaw", "cnt", "(II)I"⟩ : MethodName)) hown (mvT hZ (hw _ (List.mem_of_getElem? (i := 1) rfl))) (mvT hZ (hw _ (List.mem_of_getElem? (i := 2) rfl))) (mvT hZ (hw _ (List.mem_of_getElem? (i := 3) rfl))) (mvT hZ (hw _ (List.mem_of_getElem? (i := 4) rfl))) (by decide) (backOf (W := 1) (rm1 l Z a0 hw [] p4 (2 : Int32)  T174.heap n0 (Nat.le_trans Z0 K174.1) ) hZ (hw _ (List.mem_of_getElem? (i := 4) rfl)) (hw _ (List.mem_of_getElem? (i := 3) rfl)) (by decide) (by decide)) (g := (mkF m 274 #[.val (.int p0), .val (.int p1), .val (.int p2), .val (.int p3), .val (.int p4), .val (.int (3 : Int32)), .val (.int d0), .val (.int d1), .val (.int d2), .val (.ref b154), .val (.ref b169), .val (.int (own_am [d0, d1, d2] [(own_cnt p4 (0 : Int32)), (own_cnt p4 (1 : Int32)), (own_cnt p4 (2 : Int32)), (own_cnt p4 (3 : Int32)), (own_cnt p4 (4 : Int32)), (own_cnt p4 (5 : Int32)), (own_cnt p4 (6 : Int32))])), .val (.int ex), .unset, .unset] [(.int (2 : Int32)), (.int p4), (.int (own_cnt p4 (2 : Int32)))])) rfl (by rw [hml]; rfl) (argsL := [(.int p4), (.int (2 : Int32))]) (rest := [(.int (own_cnt p4 (2 : Int32)))]) (lenOf pd0_0 rfl) rfl (by show 2 * 0 + _ ≤ _; exact Nat.le_of_eq rfl) (hb hby at_274) (fun _ _ => ⟨rfl, e182, (by decide : 3 + 0 ≤ _), (by decide : 17 + 0 ≤ _)⟩)
      dsimp only [Pt.U, Pt.locs, Pt.cells, Pt.slots] at X184 l184 y184 z184 st184 hQ184
      subst y184 z184
      have X184 : Stand p l e room_1 s m #[(.int p0), (.int p1), (.int p2), (.int p3), (.int p4)] below meth c T184 _ 3 17 := X184
      obtain ⟨rfl, N184q, e184⟩ := hQ184
      have N184 : Fr n0 L184 := by rw [l184]; exact Fr.app N182 N184q
      refine own_go (st184) ?_
      show own_Fin p.tables e below (T184.setTop (mkF m 277 #[.val (.int p0), .val (.int p1), .val (.int p2), .val (.int p3), .val (.int p4), .val (.int (3 : Int32)), .val (.int d0), .val (.int d1), .val (.int d2), .val (.ref b154), .val (.ref b169), .val (.int (own_am [d0, d1, d2] [(own_cnt p4 (0 : Int32)), (own_cnt p4 (1 : Int32)), (own_cnt p4 (2 : Int32)), (own_cnt p4 (3 : Int32)), (own_cnt p4 (4 : Int32)), (own_cnt p4 (5 : Int32)), (own_cnt p4 (6 : Int32))])), .val (.int ex), .unset, .unset] [(.int (own_cnt p4 (2 : Int32))), (.int (own_cnt p4 (2 : Int32)))])) _
      refine own_go (B := T184.setTop (mkF m 283 #[.val (.int p0), .val (.int p1), .val (.int p2), .val (.int p3), .val (.int p4), .val (.int (3 : Int32)), .val (.int d0), .val (.int d1), .val (.int d2), .val (.ref b154), .val (.ref b169), .val (.int (own_am [d0, d1, d2] [(own_cnt p4 (0 : Int32)), (own_cnt p4 (1 : Int32)), (own_cnt p4 (2 : Int32)), (own_cnt p4 (3 : Int32)), (own_cnt p4 (4 : Int32)), (own_cnt p4 (5 : Int32)), (own_cnt p4 (6 : Int32))])), .val (.int ex), .unset, .unset] [(.int (3 : Int32)), (.ref b154)])) (fun t k => ?_) ?_
      · show Steps p.tables e below (T184.setTop (mkF m 277 #[.val (.int p0), .val (.int p1), .val (.int p2), .val (.int p3), .val (.int p4), .val (.int (3 : Int32)), .val (.int d0), .val (.int d1), .val (.int d2), .val (.ref b154), .val (.ref b169), .val (.int (own_am [d0, d1, d2] [(own_cnt p4 (0 : Int32)), (own_cnt p4 (1 : Int32)), (own_cnt p4 (2 : Int32)), (own_cnt p4 (3 : Int32)), (own_cnt p4 (4 : Int32)), (own_cnt p4 (5 : Int32)), (own_cnt p4 (6 : Int32))])), .val (.int ex), .unset, .unset] [(.int (own_cnt p4 (2 : Int32))), (.int (own_cnt p4 (2 : Int32)))])) t
        refine XS.icmpNo X184.here hx rfl (hb hby at_277) rfl (teq (rfl : (own_cnt p4 (2 : Int32)) = (own_cnt p4 (2 : Int32)))).2 ?_
        refine XS.aload X184.here hx rfl (hb hby at_280) rfl rfl ?_
        refine XS.iconst X184.here hx rfl (hb hby at_282) ?_
        exact k
      obtain ⟨cl185, Ar185, -, S185, M185, Ha185, G185⟩ := id f179
      have hin185 : ¬ ((3 : Int32) < 0 ∨ cl185.slots.size ≤ ((3 : Int32)).toNatClampNeg) := inb_of S185 ⟨by decide, by decide⟩
      have hat185 : cl185.slots[((3 : Int32)).toNatClampNeg]? = some (.int (own_cnt p4 (3 : Int32))) := Has.at Ha185 hin185 rfl
      refine own_go (B := T184.setTop (mkF m 284 #[.val (.int p0), .val (.int p1), .val (.int p2), .val (.int p3), .val (.int p4), .val (.int (3 : Int32)), .val (.int d0), .val (.int d1), .val (.int d2), .val (.ref b154), .val (.ref b169), .val (.int (own_am [d0, d1, d2] [(own_cnt p4 (0 : Int32)), (own_cnt p4 (1 : Int32)), (own_cnt p4 (2 : Int32)), (own_cnt p4 (3 : Int32)), (own_cnt p4 (4 : Int32)), (own_cnt p4 (5 : Int32)), (own_cnt p4 (6 : Int32))])), .val (.int ex), .unset, .unset] [(.int (own_cnt p4 (3 : Int32)))])) (fun t k => ?_) ?_
      · exact X184.iaload hx (j := (3 : Int32)) (v := (.int (own_cnt p4 (3 : Int32)))) (by rw [e184]; exact Ar185.1) (State.isArrayOf_alike hZ.alike Ar185.2.1) Ar185.2.2 hin185 hat185 (g := (mkF m 283 #[.val (.int p0), .val (.int p1), .val (.int p2), .val (.int p3), .val (.int p4), .val (.int (3 : Int32)), .val (.int d0), .val (.int d1), .val (.int d2), .val (.ref b154), .val (.ref b169), .val (.int (own_am [d0, d1, d2] [(own_cnt p4 (0 : Int32)), (own_cnt p4 (1 : Int32)), (own_cnt p4 (2 : Int32)), (own_cnt p4 (3 : Int32)), (own_cnt p4 (4 : Int32)), (own_cnt p4 (5 : Int32)), (own_cnt p4 (6 : Int32))])), .val (.int ex), .unset, .unset] [(.int (3 : Int32)), (.ref b154)])) rfl rfl (hb hby at_283) _ k
      refine own_go (B := T184.setTop (mkF m 287 #[.val (.int p0), .val (.int p1), .val (.int p2), .val (.int p3), .val (.int p4), .val (.int (3 : Int32)), .val (.int d0), .val (.int d1), .val (.int d2), .val (.ref b154), .val (.ref b169), .val (.int (own_am [d0, d1, d2] [(own_cnt p4 (0 : Int32)), (own_cnt p4 (1 : Int32)), (own_cnt p4 (2 : Int32)), (own_cnt p4 (3 : Int32)), (own_cnt p4 (4 : Int32)), (own_cnt p4 (5 : Int32)), (own_cnt p4 (6 : Int32))])), .val (.int ex), .unset, .unset] [(.int (3 : Int32)), (.int p4), (.int (own_cnt p4 (3 : Int32)))])) (fun t k => ?_) ?_
      · show Steps p.tables e below (T184.setTop (mkF m 284 #[.val (.int p0), .val (.int p1), .val (.int p2), .val (.int p3), .val (.int p4), .val (.int (3 : Int32)), .val (.int d0), .val (.int d1), .val (.int d2), .val (.ref b154), .val (.ref b169), .val (.int (own_am [d0, d1, d2] [(own_cnt p4 (0 : Int32)), (own_cnt p4 (1 : Int32)), (own_cnt p4 (2 : Int32)), (own_cnt p4 (3 : Int32)), (own_cnt p4 (4 : Int32)), (own_cnt p4 (5 : Int32)), (own_cnt p4 (6 : Int32))])), .val (.int ex), .unset, .unset] [(.int (own_cnt p4 (3 : Int32)))])) t
        refine XS.iload X184.here hx rfl (hb hby at_284) rfl ?_
        refine XS.iconst X184.here hx rfl (hb hby at_286) ?_
        exact k
      obtain ⟨_, _, ⟨T186, L186, k186, n186⟩, -, X186, ⟨Lc186, hQ186, l186, y186, z186⟩, st186⟩ := Jvm.LawKit.callS X184 hx (y := (⟨"com/example/rollhaus/rollhaus/dice/FacesAmongPinLaw", "cnt", "(II)I"⟩ : MethodName)) hown (mvT hZ (hw _ (List.mem_of_getElem? (i := 1) rfl))) (mvT hZ (hw _ (List.mem_of_getElem? (i := 2) rfl))) (mvT hZ (hw _ (List.mem_of_getElem? (i := 3) rfl))) (mvT hZ (hw _ (List.mem_of_getElem? (i := 4) rfl))) (by decide) (backOf (W := 1) (rm1 l Z a0 hw [] p4 (3 : Int32)  T174.heap n0 (Nat.le_trans Z0 K174.1) ) hZ (hw _ (List.mem_of_getElem? (i := 4) rfl)) (hw _ (List.mem_of_getElem? (i := 3) rfl)) (by decide) (by decide)) (g := (mkF m 287 #[.val (.int p0), .val (.int p1), .val (.int p2), .val (.int p3), .val (.int p4), .val (.int (3 : Int32)), .val (.int d0), .val (.int d1), .val (.int d2), .val (.ref b154), .val (.ref b169), .val (.int (own_am [d0, d1, d2] [(own_cnt p4 (0 : Int32)), (own_cnt p4 (1 : Int32)), (own_cnt p4 (2 : Int32)), (own_cnt p4 (3 : Int32)), (own_cnt p4 (4 : Int32)), (own_cnt p4 (5 : Int32)), (own_cnt p4 (6 : Int32))])), .val (.int ex), .unset, .unset] [(.int (3 : Int32)), (.int p4), (.int (own_cnt p4 (3 : Int32)))])) rfl (by rw [hml]; rfl) (argsL := [(.int p4), (.int (3 : Int32))]) (rest := [(.int (own_cnt p4 (3 : Int32)))]) (lenOf pd0_0 rfl) rfl (by show 2 * 0 + _ ≤ _; exact Nat.le_of_eq rfl) (hb hby at_287) (fun _ _ => ⟨rfl, e184, (by decide : 3 + 0 ≤ _), (by decide : 17 + 0 ≤ _)⟩)
      dsimp only [Pt.U, Pt.locs, Pt.cells, Pt.slots] at X186 l186 y186 z186 st186 hQ186
      subst y186 z186
      have X186 : Stand p l e room_1 s m #[(.int p0), (.int p1), (.int p2), (.int p3), (.int p4)] below meth c T186 _ 3 17 := X186
      obtain ⟨rfl, N186q, e186⟩ := hQ186
      have N186 : Fr n0 L186 := by rw [l186]; exact Fr.app N184 N186q
      refine own_go (st186) ?_
      show own_Fin p.tables e below (T186.setTop (mkF m 290 #[.val (.int p0), .val (.int p1), .val (.int p2), .val (.int p3), .val (.int p4), .val (.int (3 : Int32)), .val (.int d0), .val (.int d1), .val (.int d2), .val (.ref b154), .val (.ref b169), .val (.int (own_am [d0, d1, d2] [(own_cnt p4 (0 : Int32)), (own_cnt p4 (1 : Int32)), (own_cnt p4 (2 : Int32)), (own_cnt p4 (3 : Int32)), (own_cnt p4 (4 : Int32)), (own_cnt p4 (5 : Int32)), (own_cnt p4 (6 : Int32))])), .val (.int ex), .unset, .unset] [(.int (own_cnt p4 (3 : Int32))), (.int (own_cnt p4 (3 : Int32)))])) _
      refine own_go (B := T186.setTop (mkF m 296 #[.val (.int p0), .val (.int p1), .val (.int p2), .val (.int p3), .val (.int p4), .val (.int (3 : Int32)), .val (.int d0), .val (.int d1), .val (.int d2), .val (.ref b154), .val (.ref b169), .val (.int (own_am [d0, d1, d2] [(own_cnt p4 (0 : Int32)), (own_cnt p4 (1 : Int32)), (own_cnt p4 (2 : Int32)), (own_cnt p4 (3 : Int32)), (own_cnt p4 (4 : Int32)), (own_cnt p4 (5 : Int32)), (own_cnt p4 (6 : Int32))])), .val (.int ex), .unset, .unset] [(.int (4 : Int32)), (.ref b154)])) (fun t k => ?_) ?_
      · show Steps p.tables e below (T186.setTop (mkF m 290 #[.val (.int p0), .val (.int p1), .val (.int p2), .val (.int p3), .val (.int p4), .val (.int (3 : Int32)), .val (.int d0), .val (.int d1), .val (.int d2), .val (.ref b154), .val (.ref b169), .val (.int (own_am [d0, d1, d2] [(own_cnt p4 (0 : Int32)), (own_cnt p4 (1 : Int32)), (own_cnt p4 (2 : Int32)), (own_cnt p4 (3 : Int32)), (own_cnt p4 (4 : Int32)), (own_cnt p4 (5 : Int32)), (own_cnt p4 (6 : Int32))])), .val (.int ex), .unset, .unset] [(.int (own_cnt p4 (3 : Int32))), (.int (own_cnt p4 (3 : Int32)))])) t
        refine XS.icmpNo X186.here hx rfl (hb hby at_290) rfl (teq (rfl : (own_cnt p4 (3 : Int32)) = (own_cnt p4 (3 : Int32)))).2 ?_
        refine XS.aload X186.here hx rfl (hb hby at_293) rfl rfl ?_
        refine XS.iconst X186.here hx rfl (hb hby at_295) ?_
        exact k
      obtain ⟨cl187, Ar187, -, S187, M187, Ha187, G187⟩ := id f179
      have hin187 : ¬ ((4 : Int32) < 0 ∨ cl187.slots.size ≤ ((4 : Int32)).toNatClampNeg) := inb_of S187 ⟨by decide, by decide⟩
      have hat187 : cl187.slots[((4 : Int32)).toNatClampNeg]? = some (.int (own_cnt p4 (4 : Int32))) := Has.at Ha187 hin187 rfl
      refine own_go (B := T186.setTop (mkF m 297 #[.val (.int p0), .val (.int p1), .val (.int p2), .val (.int p3), .val (.int p4), .val (.int (3 : Int32)), .val (.int d0), .val (.int d1), .val (.int d2), .val (.ref b154), .val (.ref b169), .val (.int (own_am [d0, d1, d2] [(own_cnt p4 (0 : Int32)), (own_cnt p4 (1 : Int32)), (own_cnt p4 (2 : Int32)), (own_cnt p4 (3 : Int32)), (own_cnt p4 (4 : Int32)), (own_cnt p4 (5 : Int32)), (own_cnt p4 (6 : Int32))])), .val (.int ex), .unset, .unset] [(.int (own_cnt p4 (4 : Int32)))])) (fun t k => ?_) ?_
      · exact X186.iaload hx (j := (4 : Int32)) (v := (.int (own_cnt p4 (4 : Int32)))) (by rw [e186]; exact Ar187.1) (State.isArrayOf_alike hZ.alike Ar187.2.1) Ar187.2.2 hin187 hat187 (g := (mkF m 296 #[.val (.int p0), .val (.int p1), .val (.int p2), .val (.int p3), .val (.int p4), .val (.int (3 : Int32)), .val (.int d0), .val (.int d1), .val (.int d2), .val (.ref b154), .val (.ref b169), .val (.int (own_am [d0, d1, d2] [(own_cnt p4 (0 : Int32)), (own_cnt p4 (1 : Int32)), (own_cnt p4 (2 : Int32)), (own_cnt p4 (3 : Int32)), (own_cnt p4 (4 : Int32)), (own_cnt p4 (5 : Int32)), (own_cnt p4 (6 : Int32))])), .val (.int ex), .unset, .unset] [(.int (4 : Int32)), (.ref b154)])) rfl rfl (hb hby at_296) _ k
      refine own_go (B := T186.setTop (mkF m 300 #[.val (.int p0), .val (.int p1), .val (.int p2), .val (.int p3), .val (.int p4), .val (.int (3 : Int32)), .val (.int d0), .val (.int d1), .val (.int d2), .val (.ref b154), .val (.ref b169), .val (.int (own_am [d0, d1, d2] [(own_cnt p4 (0 : Int32)), (own_cnt p4 (1 : Int32)), (own_cnt p4 (2 : Int32)), (own_cnt p4 (3 : Int32)), (own_cnt p4 (4 : Int32)), (own_cnt p4 (5 : Int32)), (own_cnt p4 (6 : Int32))])), .val (.int ex), .unset, .unset] [(.int (4 : Int32)), (.int p4), (.int (own_cnt p4 (4 : Int32)))])) (fun t k => ?_) ?_
      · show Steps p.tables e below (T186.setTop (mkF m 297 #[.val (.int p0), .val (.int p1), .val (.int p2), .val (.int p3), .val (.int p4), .val (.int (3 : Int32)), .val (.int d0), .val (.int d1), .val (.int d2), .val (.ref b154), .val (.ref b169), .val (.int (own_am [d0, d1, d2] [(own_cnt p4 (0 : Int32)), (own_cnt p4 (1 : Int32)), (own_cnt p4 (2 : Int32)), (own_cnt p4 (3 : Int32)), (own_cnt p4 (4 : Int32)), (own_cnt p4 (5 : Int32)), (own_cnt p4 (6 : Int32))])), .val (.int ex), .unset, .unset] [(.int (own_cnt p4 (4 : Int32)))])) t
        refine XS.iload X186.here hx rfl (hb hby at_297) rfl ?_
        refine XS.iconst X186.here hx rfl (hb hby at_299) ?_
        exact k
      obtain ⟨_, _, ⟨T188, L188, k188, n188⟩, -, X188, ⟨Lc188, hQ188, l188, y188, z188⟩, st188⟩ := Jvm.LawKit.callS X186 hx (y := (⟨"com/example/rollhaus/rollhaus/dice/FacesAmongPinLaw", "cnt", "(II)I"⟩ : MethodName)) hown (mvT hZ (hw _ (List.mem_of_getElem? (i := 1) rfl))) (mvT hZ (hw _ (List.mem_of_getElem? (i := 2) rfl))) (mvT hZ (hw _ (List.mem_of_getElem? (i := 3) rfl))) (mvT hZ (hw _ (List.mem_of_getElem? (i := 4) rfl))) (by decide) (backOf (W := 1) (rm1 l Z a0 hw [] p4 (4 : Int32)  T174.heap n0 (Nat.le_trans Z0 K174.1) ) hZ (hw _ (List.mem_of_getElem? (i := 4) rfl)) (hw _ (List.mem_of_getElem? (i := 3) rfl)) (by decide) (by decide)) (g := (mkF m 300 #[.val (.int p0), .val (.int p1), .val (.int p2), .val (.int p3), .val (.int p4), .val (.int (3 : Int32)), .val (.int d0), .val (.int d1), .val (.int d2), .val (.ref b154), .val (.ref b169), .val (.int (own_am [d0, d1, d2] [(own_cnt p4 (0 : Int32)), (own_cnt p4 (1 : Int32)), (own_cnt p4 (2 : Int32)), (own_cnt p4 (3 : Int32)), (own_cnt p4 (4 : Int32)), (own_cnt p4 (5 : Int32)), (own_cnt p4 (6 : Int32))])), .val (.int ex), .unset, .unset] [(.int (4 : Int32)), (.int p4), (.int (own_cnt p4 (4 : Int32)))])) rfl (by rw [hml]; rfl) (argsL := [(.int p4), (.int (4 : Int32))]) (rest := [(.int (own_cnt p4 (4 : Int32)))]) (lenOf pd0_0 rfl) rfl (by show 2 * 0 + _ ≤ _; exact Nat.le_of_eq rfl) (hb hby at_300) (fun _ _ => ⟨rfl, e186, (by decide : 3 + 0 ≤ _), (by decide : 17 + 0 ≤ _)⟩)
      dsimp only [Pt.U, Pt.locs, Pt.cells, Pt.slots] at X188 l188 y188 z188 st188 hQ188
      subst y188 z188
      have X188 : Stand p l e room_1 s m #[(.int p0), (.int p1), (.int p2), (.int p3), (.int p4)] below meth c T188 _ 3 17 := X188
      obtain ⟨rfl, N188q, e188⟩ := hQ188
      have N188 : Fr n0 L188 := by rw [l188]; exact Fr.app N186 N188q
      refine own_go (st188) ?_
      show own_Fin p.tables e below (T188.setTop (mkF m 303 #[.val (.int p0), .val (.int p1), .val (.int p2), .val (.int p3), .val (.int p4), .val (.int (3 : Int32)), .val (.int d0), .val (.int d1), .val (.int d2), .val (.ref b154), .val (.ref b169), .val (.int (own_am [d0, d1, d2] [(own_cnt p4 (0 : Int32)), (own_cnt p4 (1 : Int32)), (own_cnt p4 (2 : Int32)), (own_cnt p4 (3 : Int32)), (own_cnt p4 (4 : Int32)), (own_cnt p4 (5 : Int32)), (own_cnt p4 (6 : Int32))])), .val (.int ex), .unset, .unset] [(.int (own_cnt p4 (4 : Int32))), (.int (own_cnt p4 (4 : Int32)))])) _
      refine own_go (B := T188.setTop (mkF m 309 #[.val (.int p0), .val (.int p1), .val (.int p2), .val (.int p3), .val (.int p4), .val (.int (3 : Int32)), .val (.int d0), .val (.int d1), .val (.int d2), .val (.ref b154), .val (.ref b169), .val (.int (own_am [d0, d1, d2] [(own_cnt p4 (0 : Int32)), (own_cnt p4 (1 : Int32)), (own_cnt p4 (2 : Int32)), (own_cnt p4 (3 : Int32)), (own_cnt p4 (4 : Int32)), (own_cnt p4 (5 : Int32)), (own_cnt p4 (6 : Int32))])), .val (.int ex), .unset, .unset] [(.int (5 : Int32)), (.ref b154)])) (fun t k => ?_) ?_
      · show Steps p.tables e below (T188.setTop (mkF m 303 #[.val (.int p0), .val (.int p1), .val (.int p2), .val (.int p3), .val (.int p4), .val (.int (3 : Int32)), .val (.int d0), .val (.int d1), .val (.int d2), .val (.ref b154), .val (.ref b169), .val (.int (own_am [d0, d1, d2] [(own_cnt p4 (0 : Int32)), (own_cnt p4 (1 : Int32)), (own_cnt p4 (2 : Int32)), (own_cnt p4 (3 : Int32)), (own_cnt p4 (4 : Int32)), (own_cnt p4 (5 : Int32)), (own_cnt p4 (6 : Int32))])), .val (.int ex), .unset, .unset] [(.int (own_cnt p4 (4 : Int32))), (.int (own_cnt p4 (4 : Int32)))])) t
        refine XS.icmpNo X188.here hx rfl (hb hby at_303) rfl (teq (rfl : (own_cnt p4 (4 : Int32)) = (own_cnt p4 (4 : Int32)))).2 ?_
        refine XS.aload X188.here hx rfl (hb hby at_306) rfl rfl ?_
        refine XS.iconst X188.here hx rfl (hb hby at_308) ?_
        exact k
      obtain ⟨cl189, Ar189, -, S189, M189, Ha189, G189⟩ := id f179
      have hin189 : ¬ ((5 : Int32) < 0 ∨ cl189.slots.size ≤ ((5 : Int32)).toNatClampNeg) := inb_of S189 ⟨by decide, by decide⟩
      have hat189 : cl189.slots[((5 : Int32)).toNatClampNeg]? = some (.int (own_cnt p4 (5 : Int32))) := Has.at Ha189 hin189 rfl
      refine own_go (B := T188.setTop (mkF m 310 #[.val (.int p0), .val (.int p1), .val (.int p2), .val (.int p3), .val (.int p4), .val (.int (3 : Int32)), .val (.int d0), .val (.int d1), .val (.int d2), .val (.ref b154), .val (.ref b169), .val (.int (own_am [d0, d1, d2] [(own_cnt p4 (0 : Int32)), (own_cnt p4 (1 : Int32)), (own_cnt p4 (2 : Int32)), (own_cnt p4 (3 : Int32)), (own_cnt p4 (4 : Int32)), (own_cnt p4 (5 : Int32)), (own_cnt p4 (6 : Int32))])), .val (.int ex), .unset, .unset] [(.int (own_cnt p4 (5 : Int32)))])) (fun t k => ?_) ?_
      · exact X188.iaload hx (j := (5 : Int32)) (v := (.int (own_cnt p4 (5 : Int32)))) (by rw [e188]; exact Ar189.1) (State.isArrayOf_alike hZ.alike Ar189.2.1) Ar189.2.2 hin189 hat189 (g := (mkF m 309 #[.val (.int p0), .val (.int p1), .val (.int p2), .val (.int p3), .val (.int p4), .val (.int (3 : Int32)), .val (.int d0), .val (.int d1), .val (.int d2), .val (.ref b154), .val (.ref b169), .val (.int (own_am [d0, d1, d2] [(own_cnt p4 (0 : Int32)), (own_cnt p4 (1 : Int32)), (own_cnt p4 (2 : Int32)), (own_cnt p4 (3 : Int32)), (own_cnt p4 (4 : Int32)), (own_cnt p4 (5 : Int32)), (own_cnt p4 (6 : Int32))])), .val (.int ex), .unset, .unset] [(.int (5 : Int32)), (.ref b154)])) rfl rfl (hb hby at_309) _ k
      refine own_go (B := T188.setTop (mkF m 313 #[.val (.int p0), .val (.int p1), .val (.int p2), .val (.int p3), .val (.int p4), .val (.int (3 : Int32)), .val (.int d0), .val (.int d1), .val (.int d2), .val (.ref b154), .val (.ref b169), .val (.int (own_am [d0, d1, d2] [(own_cnt p4 (0 : Int32)), (own_cnt p4 (1 : Int32)), (own_cnt p4 (2 : Int32)), (own_cnt p4 (3 : Int32)), (own_cnt p4 (4 : Int32)), (own_cnt p4 (5 : Int32)), (own_cnt p4 (6 : Int32))])), .val (.int ex), .unset, .unset] [(.int (5 : Int32)), (.int p4), (.int (own_cnt p4 (5 : Int32)))])) (fun t k => ?_) ?_
      · show Steps p.tables e below (T188.setTop (mkF m 310 #[.val (.int p0), .val (.int p1), .val (.int p2), .val (.int p3), .val (.int p4), .val (.int (3 : Int32)), .val (.int d0), .val (.int d1), .val (.int d2), .val (.ref b154), .val (.ref b169), .val (.int (own_am [d0, d1, d2] [(own_cnt p4 (0 : Int32)), (own_cnt p4 (1 : Int32)), (own_cnt p4 (2 : Int32)), (own_cnt p4 (3 : Int32)), (own_cnt p4 (4 : Int32)), (own_cnt p4 (5 : Int32)), (own_cnt p4 (6 : Int32))])), .val (.int ex), .unset, .unset] [(.int (own_cnt p4 (5 : Int32)))])) t
        refine XS.iload X188.here hx rfl (hb hby at_310) rfl ?_
        refine XS.iconst X188.here hx rfl (hb hby at_312) ?_
        exact k
      obtain ⟨_, _, ⟨T190, L190, k190, n190⟩, -, X190, ⟨Lc190, hQ190, l190, y190, z190⟩, st190⟩ := Jvm.LawKit.callS X188 hx (y := (⟨"com/example/rollhaus/rollhaus/dice/FacesAmongPinLaw", "cnt", "(II)I"⟩ : MethodName)) hown (mvT hZ (hw _ (List.mem_of_getElem? (i := 1) rfl))) (mvT hZ (hw _ (List.mem_of_getElem? (i := 2) rfl))) (mvT hZ (hw _ (List.mem_of_getElem? (i := 3) rfl))) (mvT hZ (hw _ (List.mem_of_getElem? (i := 4) rfl))) (by decide) (backOf (W := 1) (rm1 l Z a0 hw [] p4 (5 : Int32)  T174.heap n0 (Nat.le_trans Z0 K174.1) ) hZ (hw _ (List.mem_of_getElem? (i := 4) rfl)) (hw _ (List.mem_of_getElem? (i := 3) rfl)) (by decide) (by decide)) (g := (mkF m 313 #[.val (.int p0), .val (.int p1), .val (.int p2), .val (.int p3), .val (.int p4), .val (.int (3 : Int32)), .val (.int d0), .val (.int d1), .val (.int d2), .val (.ref b154), .val (.ref b169), .val (.int (own_am [d0, d1, d2] [(own_cnt p4 (0 : Int32)), (own_cnt p4 (1 : Int32)), (own_cnt p4 (2 : Int32)), (own_cnt p4 (3 : Int32)), (own_cnt p4 (4 : Int32)), (own_cnt p4 (5 : Int32)), (own_cnt p4 (6 : Int32))])), .val (.int ex), .unset, .unset] [(.int (5 : Int32)), (.int p4), (.int (own_cnt p4 (5 : Int32)))])) rfl (by rw [hml]; rfl) (argsL := [(.int p4), (.int (5 : Int32))]) (rest := [(.int (own_cnt p4 (5 : Int32)))]) (lenOf pd0_0 rfl) rfl (by show 2 * 0 + _ ≤ _; exact Nat.le_of_eq rfl) (hb hby at_313) (fun _ _ => ⟨rfl, e188, (by decide : 3 + 0 ≤ _), (by decide : 17 + 0 ≤ _)⟩)
      dsimp only [Pt.U, Pt.locs, Pt.cells, Pt.slots] at X190 l190 y190 z190 st190 hQ190
      subst y190 z190
      have X190 : Stand p l e room_1 s m #[(.int p0), (.int p1), (.int p2), (.int p3), (.int p4)] below meth c T190 _ 3 17 := X190
      obtain ⟨rfl, N190q, e190⟩ := hQ190
      have N190 : Fr n0 L190 := by rw [l190]; exact Fr.app N188 N190q
      refine own_go (st190) ?_
      show own_Fin p.tables e below (T190.setTop (mkF m 316 #[.val (.int p0), .val (.int p1), .val (.int p2), .val (.int p3), .val (.int p4), .val (.int (3 : Int32)), .val (.int d0), .val (.int d1), .val (.int d2), .val (.ref b154), .val (.ref b169), .val (.int (own_am [d0, d1, d2] [(own_cnt p4 (0 : Int32)), (own_cnt p4 (1 : Int32)), (own_cnt p4 (2 : Int32)), (own_cnt p4 (3 : Int32)), (own_cnt p4 (4 : Int32)), (own_cnt p4 (5 : Int32)), (own_cnt p4 (6 : Int32))])), .val (.int ex), .unset, .unset] [(.int (own_cnt p4 (5 : Int32))), (.int (own_cnt p4 (5 : Int32)))])) _
      refine own_go (B := T190.setTop (mkF m 323 #[.val (.int p0), .val (.int p1), .val (.int p2), .val (.int p3), .val (.int p4), .val (.int (3 : Int32)), .val (.int d0), .val (.int d1), .val (.int d2), .val (.ref b154), .val (.ref b169), .val (.int (own_am [d0, d1, d2] [(own_cnt p4 (0 : Int32)), (own_cnt p4 (1 : Int32)), (own_cnt p4 (2 : Int32)), (own_cnt p4 (3 : Int32)), (own_cnt p4 (4 : Int32)), (own_cnt p4 (5 : Int32)), (own_cnt p4 (6 : Int32))])), .val (.int ex), .unset, .unset] [(.int (6 : Int32)), (.ref b154)])) (fun t k => ?_) ?_
      · show Steps p.tables e below (T190.setTop (mkF m 316 #[.val (.int p0), .val (.int p1), .val (.int p2), .val (.int p3), .val (.int p4), .val (.int (3 : Int32)), .val (.int d0), .val (.int d1), .val (.int d2), .val (.ref b154), .val (.ref b169), .val (.int (own_am [d0, d1, d2] [(own_cnt p4 (0 : Int32)), (own_cnt p4 (1 : Int32)), (own_cnt p4 (2 : Int32)), (own_cnt p4 (3 : Int32)), (own_cnt p4 (4 : Int32)), (own_cnt p4 (5 : Int32)), (own_cnt p4 (6 : Int32))])), .val (.int ex), .unset, .unset] [(.int (own_cnt p4 (5 : Int32))), (.int (own_cnt p4 (5 : Int32)))])) t
        refine XS.icmpNo X190.here hx rfl (hb hby at_316) rfl (teq (rfl : (own_cnt p4 (5 : Int32)) = (own_cnt p4 (5 : Int32)))).2 ?_
        refine XS.aload X190.here hx rfl (hb hby at_319) rfl rfl ?_
        refine XS.bipush X190.here hx rfl (hb hby at_321) ?_
        exact k
      obtain ⟨cl191, Ar191, -, S191, M191, Ha191, G191⟩ := id f179
      have hin191 : ¬ ((6 : Int32) < 0 ∨ cl191.slots.size ≤ ((6 : Int32)).toNatClampNeg) := inb_of S191 ⟨by decide, by decide⟩
      have hat191 : cl191.slots[((6 : Int32)).toNatClampNeg]? = some (.int (own_cnt p4 (6 : Int32))) := Has.at Ha191 hin191 rfl
      refine own_go (B := T190.setTop (mkF m 324 #[.val (.int p0), .val (.int p1), .val (.int p2), .val (.int p3), .val (.int p4), .val (.int (3 : Int32)), .val (.int d0), .val (.int d1), .val (.int d2), .val (.ref b154), .val (.ref b169), .val (.int (own_am [d0, d1, d2] [(own_cnt p4 (0 : Int32)), (own_cnt p4 (1 : Int32)), (own_cnt p4 (2 : Int32)), (own_cnt p4 (3 : Int32)), (own_cnt p4 (4 : Int32)), (own_cnt p4 (5 : Int32)), (own_cnt p4 (6 : Int32))])), .val (.int ex), .unset, .unset] [(.int (own_cnt p4 (6 : Int32)))])) (fun t k => ?_) ?_
      · exact X190.iaload hx (j := (6 : Int32)) (v := (.int (own_cnt p4 (6 : Int32)))) (by rw [e190]; exact Ar191.1) (State.isArrayOf_alike hZ.alike Ar191.2.1) Ar191.2.2 hin191 hat191 (g := (mkF m 323 #[.val (.int p0), .val (.int p1), .val (.int p2), .val (.int p3), .val (.int p4), .val (.int (3 : Int32)), .val (.int d0), .val (.int d1), .val (.int d2), .val (.ref b154), .val (.ref b169), .val (.int (own_am [d0, d1, d2] [(own_cnt p4 (0 : Int32)), (own_cnt p4 (1 : Int32)), (own_cnt p4 (2 : Int32)), (own_cnt p4 (3 : Int32)), (own_cnt p4 (4 : Int32)), (own_cnt p4 (5 : Int32)), (own_cnt p4 (6 : Int32))])), .val (.int ex), .unset, .unset] [(.int (6 : Int32)), (.ref b154)])) rfl rfl (hb hby at_323) _ k
      refine own_go (B := T190.setTop (mkF m 328 #[.val (.int p0), .val (.int p1), .val (.int p2), .val (.int p3), .val (.int p4), .val (.int (3 : Int32)), .val (.int d0), .val (.int d1), .val (.int d2), .val (.ref b154), .val (.ref b169), .val (.int (own_am [d0, d1, d2] [(own_cnt p4 (0 : Int32)), (own_cnt p4 (1 : Int32)), (own_cnt p4 (2 : Int32)), (own_cnt p4 (3 : Int32)), (own_cnt p4 (4 : Int32)), (own_cnt p4 (5 : Int32)), (own_cnt p4 (6 : Int32))])), .val (.int ex), .unset, .unset] [(.int (6 : Int32)), (.int p4), (.int (own_cnt p4 (6 : Int32)))])) (fun t k => ?_) ?_
      · show Steps p.tables e below (T190.setTop (mkF m 324 #[.val (.int p0), .val (.int p1), .val (.int p2), .val (.int p3), .val (.int p4), .val (.int (3 : Int32)), .val (.int d0), .val (.int d1), .val (.int d2), .val (.ref b154), .val (.ref b169), .val (.int (own_am [d0, d1, d2] [(own_cnt p4 (0 : Int32)), (own_cnt p4 (1 : Int32)), (own_cnt p4 (2 : Int32)), (own_cnt p4 (3 : Int32)), (own_cnt p4 (4 : Int32)), (own_cnt p4 (5 : Int32)), (own_cnt p4 (6 : Int32))])), .val (.int ex), .unset, .unset] [(.int (own_cnt p4 (6 : Int32)))])) t
        refine XS.iload X190.here hx rfl (hb hby at_324) rfl ?_
        refine XS.bipush X190.here hx rfl (hb hby at_326) ?_
        exact k
      obtain ⟨_, _, ⟨T192, L192, k192, n192⟩, -, X192, ⟨Lc192, hQ192, l192, y192, z192⟩, st192⟩ := Jvm.LawKit.callS X190 hx (y := (⟨"com/example/rollhaus/rollhaus/dice/FacesAmongPinLaw", "cnt", "(II)I"⟩ : MethodName)) hown (mvT hZ (hw _ (List.mem_of_getElem? (i := 1) rfl))) (mvT hZ (hw _ (List.mem_of_getElem? (i := 2) rfl))) (mvT hZ (hw _ (List.mem_of_getElem? (i := 3) rfl))) (mvT hZ (hw _ (List.mem_of_getElem? (i := 4) rfl))) (by decide) (backOf (W := 1) (rm1 l Z a0 hw [] p4 (6 : Int32)  T174.heap n0 (Nat.le_trans Z0 K174.1) ) hZ (hw _ (List.mem_of_getElem? (i := 4) rfl)) (hw _ (List.mem_of_getElem? (i := 3) rfl)) (by decide) (by decide)) (g := (mkF m 328 #[.val (.int p0), .val (.int p1), .val (.int p2), .val (.int p3), .val (.int p4), .val (.int (3 : Int32)), .val (.int d0), .val (.int d1), .val (.int d2), .val (.ref b154), .val (.ref b169), .val (.int (own_am [d0, d1, d2] [(own_cnt p4 (0 : Int32)), (own_cnt p4 (1 : Int32)), (own_cnt p4 (2 : Int32)), (own_cnt p4 (3 : Int32)), (own_cnt p4 (4 : Int32)), (own_cnt p4 (5 : Int32)), (own_cnt p4 (6 : Int32))])), .val (.int ex), .unset, .unset] [(.int (6 : Int32)), (.int p4), (.int (own_cnt p4 (6 : Int32)))])) rfl (by rw [hml]; rfl) (argsL := [(.int p4), (.int (6 : Int32))]) (rest := [(.int (own_cnt p4 (6 : Int32)))]) (lenOf pd0_0 rfl) rfl (by show 2 * 0 + _ ≤ _; exact Nat.le_of_eq rfl) (hb hby at_328) (fun _ _ => ⟨rfl, e190, (by decide : 3 + 0 ≤ _), (by decide : 17 + 0 ≤ _)⟩)
      dsimp only [Pt.U, Pt.locs, Pt.cells, Pt.slots] at X192 l192 y192 z192 st192 hQ192
      subst y192 z192
      have X192 : Stand p l e room_1 s m #[(.int p0), (.int p1), (.int p2), (.int p3), (.int p4)] below meth c T192 _ 3 17 := X192
      obtain ⟨rfl, N192q, e192⟩ := hQ192
      have N192 : Fr n0 L192 := by rw [l192]; exact Fr.app N190 N192q
      refine own_go (st192) ?_
      show own_Fin p.tables e below (T192.setTop (mkF m 331 #[.val (.int p0), .val (.int p1), .val (.int p2), .val (.int p3), .val (.int p4), .val (.int (3 : Int32)), .val (.int d0), .val (.int d1), .val (.int d2), .val (.ref b154), .val (.ref b169), .val (.int (own_am [d0, d1, d2] [(own_cnt p4 (0 : Int32)), (own_cnt p4 (1 : Int32)), (own_cnt p4 (2 : Int32)), (own_cnt p4 (3 : Int32)), (own_cnt p4 (4 : Int32)), (own_cnt p4 (5 : Int32)), (own_cnt p4 (6 : Int32))])), .val (.int ex), .unset, .unset] [(.int (own_cnt p4 (6 : Int32))), (.int (own_cnt p4 (6 : Int32)))])) _
      refine own_go (B := T192.setTop (mkF m 343 #[.val (.int p0), .val (.int p1), .val (.int p2), .val (.int p3), .val (.int p4), .val (.int (3 : Int32)), .val (.int d0), .val (.int d1), .val (.int d2), .val (.ref b154), .val (.ref b169), .val (.int (own_am [d0, d1, d2] [(own_cnt p4 (0 : Int32)), (own_cnt p4 (1 : Int32)), (own_cnt p4 (2 : Int32)), (own_cnt p4 (3 : Int32)), (own_cnt p4 (4 : Int32)), (own_cnt p4 (5 : Int32)), (own_cnt p4 (6 : Int32))])), .val (.int ex), .val (.int (1 : Int32)), .unset] [(.ref b169)])) (fun t k => ?_) ?_
      · show Steps p.tables e below (T192.setTop (mkF m 331 #[.val (.int p0), .val (.int p1), .val (.int p2), .val (.int p3), .val (.int p4), .val (.int (3 : Int32)), .val (.int d0), .val (.int d1), .val (.int d2), .val (.ref b154), .val (.ref b169), .val (.int (own_am [d0, d1, d2] [(own_cnt p4 (0 : Int32)), (own_cnt p4 (1 : Int32)), (own_cnt p4 (2 : Int32)), (own_cnt p4 (3 : Int32)), (own_cnt p4 (4 : Int32)), (own_cnt p4 (5 : Int32)), (own_cnt p4 (6 : Int32))])), .val (.int ex), .unset, .unset] [(.int (own_cnt p4 (6 : Int32))), (.int (own_cnt p4 (6 : Int32)))])) t
        refine XS.icmpNo X192.here hx rfl (hb hby at_331) rfl (teq (rfl : (own_cnt p4 (6 : Int32)) = (own_cnt p4 (6 : Int32)))).2 ?_
        refine XS.iconst X192.here hx rfl (hb hby at_334) ?_
        refine XS.goto X192.here hx rfl (pc0 := 335) (pc' := 339) rfl (hb hby at_335) (by decide) (by decide) ?_
        refine XS.istore X192.here hx rfl (hb hby at_339) rfl (l' := #[.val (.int p0), .val (.int p1), .val (.int p2), .val (.int p3), .val (.int p4), .val (.int (3 : Int32)), .val (.int d0), .val (.int d1), .val (.int d2), .val (.ref b154), .val (.ref b169), .val (.int (own_am [d0, d1, d2] [(own_cnt p4 (0 : Int32)), (own_cnt p4 (1 : Int32)), (own_cnt p4 (2 : Int32)), (own_cnt p4 (3 : Int32)), (own_cnt p4 (4 : Int32)), (own_cnt p4 (5 : Int32)), (own_cnt p4 (6 : Int32))])), .val (.int ex), .val (.int (1 : Int32)), .unset]) rfl ?_
        show Steps p.tables e below (T192.setTop (mkF m 341 #[.val (.int p0), .val (.int p1), .val (.int p2), .val (.int p3), .val (.int p4), .val (.int (3 : Int32)), .val (.int d0), .val (.int d1), .val (.int d2), .val (.ref b154), .val (.ref b169), .val (.int (own_am [d0, d1, d2] [(own_cnt p4 (0 : Int32)), (own_cnt p4 (1 : Int32)), (own_cnt p4 (2 : Int32)), (own_cnt p4 (3 : Int32)), (own_cnt p4 (4 : Int32)), (own_cnt p4 (5 : Int32)), (own_cnt p4 (6 : Int32))])), .val (.int ex), .val (.int (1 : Int32)), .unset] [])) t
        refine XS.aload X192.here hx rfl (hb hby at_341) rfl rfl ?_
        exact k
      have f194 := (V173.keep Kq174 nin0)
      obtain ⟨cl193, Ar193, -, S193, M193, -, -⟩ := id f194
      refine own_go (B := T192.setTop (mkF m 344 #[.val (.int p0), .val (.int p1), .val (.int p2), .val (.int p3), .val (.int p4), .val (.int (3 : Int32)), .val (.int d0), .val (.int d1), .val (.int d2), .val (.ref b154), .val (.ref b169), .val (.int (own_am [d0, d1, d2] [(own_cnt p4 (0 : Int32)), (own_cnt p4 (1 : Int32)), (own_cnt p4 (2 : Int32)), (own_cnt p4 (3 : Int32)), (own_cnt p4 (4 : Int32)), (own_cnt p4 (5 : Int32)), (own_cnt p4 (6 : Int32))])), .val (.int ex), .val (.int (1 : Int32)), .unset] [(.int (3 : Int32))])) (fun t k => ?_) ?_
      · refine X192.arraylength hx (by rw [e192]; exact Ar193.1) (State.isArrayOf_alike hZ.alike Ar193.2.1) (g := (mkF m 343 #[.val (.int p0), .val (.int p1), .val (.int p2), .val (.int p3), .val (.int p4), .val (.int (3 : Int32)), .val (.int d0), .val (.int d1), .val (.int d2), .val (.ref b154), .val (.ref b169), .val (.int (own_am [d0, d1, d2] [(own_cnt p4 (0 : Int32)), (own_cnt p4 (1 : Int32)), (own_cnt p4 (2 : Int32)), (own_cnt p4 (3 : Int32)), (own_cnt p4 (4 : Int32)), (own_cnt p4 (5 : Int32)), (own_cnt p4 (6 : Int32))])), .val (.int ex), .val (.int (1 : Int32)), .unset] [(.ref b169)])) rfl rfl (hb hby at_343) _ ?_
        rw [len_of S193 M193]
        exact k
      refine own_go (B := T192.setTop (mkF m 358 #[.val (.int p0), .val (.int p1), .val (.int p2), .val (.int p3), .val (.int p4), .val (.int (3 : Int32)), .val (.int d0), .val (.int d1), .val (.int d2), .val (.ref b154), .val (.ref b169), .val (.int (own_am [d0, d1, d2] [(own_cnt p4 (0 : Int32)), (own_cnt p4 (1 : Int32)), (own_cnt p4 (2 : Int32)), (own_cnt p4 (3 : Int32)), (own_cnt p4 (4 : Int32)), (own_cnt p4 (5 : Int32)), (own_cnt p4 (6 : Int32))])), .val (.int ex), .val (.int (1 : Int32)), .unset] [(.int (0 : Int32)), (.ref b169)])) (fun t k => ?_) ?_
      · show Steps p.tables e below (T192.setTop (mkF m 344 #[.val (.int p0), .val (.int p1), .val (.int p2), .val (.int p3), .val (.int p4), .val (.int (3 : Int32)), .val (.int d0), .val (.int d1), .val (.int d2), .val (.ref b154), .val (.ref b169), .val (.int (own_am [d0, d1, d2] [(own_cnt p4 (0 : Int32)), (own_cnt p4 (1 : Int32)), (own_cnt p4 (2 : Int32)), (own_cnt p4 (3 : Int32)), (own_cnt p4 (4 : Int32)), (own_cnt p4 (5 : Int32)), (own_cnt p4 (6 : Int32))])), .val (.int ex), .val (.int (1 : Int32)), .unset] [(.int (3 : Int32))])) t
        refine XS.iload X192.here hx rfl (hb hby at_344) rfl ?_
        refine XS.icmpNo X192.here hx rfl (hb hby at_346) rfl (teq (rfl : (3 : Int32) = (3 : Int32))).2 ?_
        refine XS.iload X192.here hx rfl (hb hby at_349) rfl ?_
        refine XS.iconst X192.here hx rfl (hb hby at_351) ?_
        show Steps p.tables e below (T192.setTop (mkF m 352 #[.val (.int p0), .val (.int p1), .val (.int p2), .val (.int p3), .val (.int p4), .val (.int (3 : Int32)), .val (.int d0), .val (.int d1), .val (.int d2), .val (.ref b154), .val (.ref b169), .val (.int (own_am [d0, d1, d2] [(own_cnt p4 (0 : Int32)), (own_cnt p4 (1 : Int32)), (own_cnt p4 (2 : Int32)), (own_cnt p4 (3 : Int32)), (own_cnt p4 (4 : Int32)), (own_cnt p4 (5 : Int32)), (own_cnt p4 (6 : Int32))])), .val (.int ex), .val (.int (1 : Int32)), .unset] [(.int (1 : Int32)), (.int (3 : Int32))])) t
        refine XS.icmpNo X192.here hx rfl (hb hby at_352) rfl (flt (by decide : ¬ ((3 : Int32) < (1 : Int32)))).1 ?_
        refine XS.aload X192.here hx rfl (hb hby at_355) rfl rfl ?_
        refine XS.iconst X192.here hx rfl (hb hby at_357) ?_
        exact k
      obtain ⟨cl195, Ar195, -, S195, M195, Ha195, G195⟩ := id f194
      have hin195 : ¬ ((0 : Int32) < 0 ∨ cl195.slots.size ≤ ((0 : Int32)).toNatClampNeg) := inb_of S195 ⟨by decide, by decide⟩
      have hat195 : cl195.slots[((0 : Int32)).toNatClampNeg]? = some (.int d0) := Has.at Ha195 hin195 rfl
      refine own_go (B := T192.setTop (mkF m 359 #[.val (.int p0), .val (.int p1), .val (.int p2), .val (.int p3), .val (.int p4), .val (.int (3 : Int32)), .val (.int d0), .val (.int d1), .val (.int d2), .val (.ref b154), .val (.ref b169), .val (.int (own_am [d0, d1, d2] [(own_cnt p4 (0 : Int32)), (own_cnt p4 (1 : Int32)), (own_cnt p4 (2 : Int32)), (own_cnt p4 (3 : Int32)), (own_cnt p4 (4 : Int32)), (own_cnt p4 (5 : Int32)), (own_cnt p4 (6 : Int32))])), .val (.int ex), .val (.int (1 : Int32)), .unset] [(.int d0)])) (fun t k => ?_) ?_
      · exact X192.iaload hx (j := (0 : Int32)) (v := (.int d0)) (by rw [e192]; exact Ar195.1) (State.isArrayOf_alike hZ.alike Ar195.2.1) Ar195.2.2 hin195 hat195 (g := (mkF m 358 #[.val (.int p0), .val (.int p1), .val (.int p2), .val (.int p3), .val (.int p4), .val (.int (3 : Int32)), .val (.int d0), .val (.int d1), .val (.int d2), .val (.ref b154), .val (.ref b169), .val (.int (own_am [d0, d1, d2] [(own_cnt p4 (0 : Int32)), (own_cnt p4 (1 : Int32)), (own_cnt p4 (2 : Int32)), (own_cnt p4 (3 : Int32)), (own_cnt p4 (4 : Int32)), (own_cnt p4 (5 : Int32)), (own_cnt p4 (6 : Int32))])), .val (.int ex), .val (.int (1 : Int32)), .unset] [(.int (0 : Int32)), (.ref b169)])) rfl rfl (hb hby at_358) _ k
      refine own_go (B := T192.setTop (mkF m 373 #[.val (.int p0), .val (.int p1), .val (.int p2), .val (.int p3), .val (.int p4), .val (.int (3 : Int32)), .val (.int d0), .val (.int d1), .val (.int d2), .val (.ref b154), .val (.ref b169), .val (.int (own_am [d0, d1, d2] [(own_cnt p4 (0 : Int32)), (own_cnt p4 (1 : Int32)), (own_cnt p4 (2 : Int32)), (own_cnt p4 (3 : Int32)), (own_cnt p4 (4 : Int32)), (own_cnt p4 (5 : Int32)), (own_cnt p4 (6 : Int32))])), .val (.int ex), .val (.int (1 : Int32)), .unset] [(.int (1 : Int32)), (.ref b169)])) (fun t k => ?_) ?_
      · show Steps p.tables e below (T192.setTop (mkF m 359 #[.val (.int p0), .val (.int p1), .val (.int p2), .val (.int p3), .val (.int p4), .val (.int (3 : Int32)), .val (.int d0), .val (.int d1), .val (.int d2), .val (.ref b154), .val (.ref b169), .val (.int (own_am [d0, d1, d2] [(own_cnt p4 (0 : Int32)), (own_cnt p4 (1 : Int32)), (own_cnt p4 (2 : Int32)), (own_cnt p4 (3 : Int32)), (own_cnt p4 (4 : Int32)), (own_cnt p4 (5 : Int32)), (own_cnt p4 (6 : Int32))])), .val (.int ex), .val (.int (1 : Int32)), .unset] [(.int d0)])) t
        refine XS.iload X192.here hx rfl (hb hby at_359) rfl ?_
        refine XS.icmpNo X192.here hx rfl (hb hby at_361) rfl (teq (rfl : d0 = d0)).2 ?_
        refine XS.iload X192.here hx rfl (hb hby at_364) rfl ?_
        refine XS.iconst X192.here hx rfl (hb hby at_366) ?_
        show Steps p.tables e below (T192.setTop (mkF m 367 #[.val (.int p0), .val (.int p1), .val (.int p2), .val (.int p3), .val (.int p4), .val (.int (3 : Int32)), .val (.int d0), .val (.int d1), .val (.int d2), .val (.ref b154), .val (.ref b169), .val (.int (own_am [d0, d1, d2] [(own_cnt p4 (0 : Int32)), (own_cnt p4 (1 : Int32)), (own_cnt p4 (2 : Int32)), (own_cnt p4 (3 : Int32)), (own_cnt p4 (4 : Int32)), (own_cnt p4 (5 : Int32)), (own_cnt p4 (6 : Int32))])), .val (.int ex), .val (.int (1 : Int32)), .unset] [(.int (2 : Int32)), (.int (3 : Int32))])) t
        refine XS.icmpNo X192.here hx rfl (hb hby at_367) rfl (flt (by decide : ¬ ((3 : Int32) < (2 : Int32)))).1 ?_
        refine XS.aload X192.here hx rfl (hb hby at_370) rfl rfl ?_
        refine XS.iconst X192.here hx rfl (hb hby at_372) ?_
        exact k
      obtain ⟨cl196, Ar196, -, S196, M196, Ha196, G196⟩ := id f194
      have hin196 : ¬ ((1 : Int32) < 0 ∨ cl196.slots.size ≤ ((1 : Int32)).toNatClampNeg) := inb_of S196 ⟨by decide, by decide⟩
      have hat196 : cl196.slots[((1 : Int32)).toNatClampNeg]? = some (.int d1) := Has.at Ha196 hin196 rfl
      refine own_go (B := T192.setTop (mkF m 374 #[.val (.int p0), .val (.int p1), .val (.int p2), .val (.int p3), .val (.int p4), .val (.int (3 : Int32)), .val (.int d0), .val (.int d1), .val (.int d2), .val (.ref b154), .val (.ref b169), .val (.int (own_am [d0, d1, d2] [(own_cnt p4 (0 : Int32)), (own_cnt p4 (1 : Int32)), (own_cnt p4 (2 : Int32)), (own_cnt p4 (3 : Int32)), (own_cnt p4 (4 : Int32)), (own_cnt p4 (5 : Int32)), (own_cnt p4 (6 : Int32))])), .val (.int ex), .val (.int (1 : Int32)), .unset] [(.int d1)])) (fun t k => ?_) ?_
      · exact X192.iaload hx (j := (1 : Int32)) (v := (.int d1)) (by rw [e192]; exact Ar196.1) (State.isArrayOf_alike hZ.alike Ar196.2.1) Ar196.2.2 hin196 hat196 (g := (mkF m 373 #[.val (.int p0), .val (.int p1), .val (.int p2), .val (.int p3), .val (.int p4), .val (.int (3 : Int32)), .val (.int d0), .val (.int d1), .val (.int d2), .val (.ref b154), .val (.ref b169), .val (.int (own_am [d0, d1, d2] [(own_cnt p4 (0 : Int32)), (own_cnt p4 (1 : Int32)), (own_cnt p4 (2 : Int32)), (own_cnt p4 (3 : Int32)), (own_cnt p4 (4 : Int32)), (own_cnt p4 (5 : Int32)), (own_cnt p4 (6 : Int32))])), .val (.int ex), .val (.int (1 : Int32)), .unset] [(.int (1 : Int32)), (.ref b169)])) rfl rfl (hb hby at_373) _ k
      refine own_go (B := T192.setTop (mkF m 388 #[.val (.int p0), .val (.int p1), .val (.int p2), .val (.int p3), .val (.int p4), .val (.int (3 : Int32)), .val (.int d0), .val (.int d1), .val (.int d2), .val (.ref b154), .val (.ref b169), .val (.int (own_am [d0, d1, d2] [(own_cnt p4 (0 : Int32)), (own_cnt p4 (1 : Int32)), (own_cnt p4 (2 : Int32)), (own_cnt p4 (3 : Int32)), (own_cnt p4 (4 : Int32)), (own_cnt p4 (5 : Int32)), (own_cnt p4 (6 : Int32))])), .val (.int ex), .val (.int (1 : Int32)), .unset] [(.int (2 : Int32)), (.ref b169)])) (fun t k => ?_) ?_
      · show Steps p.tables e below (T192.setTop (mkF m 374 #[.val (.int p0), .val (.int p1), .val (.int p2), .val (.int p3), .val (.int p4), .val (.int (3 : Int32)), .val (.int d0), .val (.int d1), .val (.int d2), .val (.ref b154), .val (.ref b169), .val (.int (own_am [d0, d1, d2] [(own_cnt p4 (0 : Int32)), (own_cnt p4 (1 : Int32)), (own_cnt p4 (2 : Int32)), (own_cnt p4 (3 : Int32)), (own_cnt p4 (4 : Int32)), (own_cnt p4 (5 : Int32)), (own_cnt p4 (6 : Int32))])), .val (.int ex), .val (.int (1 : Int32)), .unset] [(.int d1)])) t
        refine XS.iload X192.here hx rfl (hb hby at_374) rfl ?_
        refine XS.icmpNo X192.here hx rfl (hb hby at_376) rfl (teq (rfl : d1 = d1)).2 ?_
        refine XS.iload X192.here hx rfl (hb hby at_379) rfl ?_
        refine XS.iconst X192.here hx rfl (hb hby at_381) ?_
        show Steps p.tables e below (T192.setTop (mkF m 382 #[.val (.int p0), .val (.int p1), .val (.int p2), .val (.int p3), .val (.int p4), .val (.int (3 : Int32)), .val (.int d0), .val (.int d1), .val (.int d2), .val (.ref b154), .val (.ref b169), .val (.int (own_am [d0, d1, d2] [(own_cnt p4 (0 : Int32)), (own_cnt p4 (1 : Int32)), (own_cnt p4 (2 : Int32)), (own_cnt p4 (3 : Int32)), (own_cnt p4 (4 : Int32)), (own_cnt p4 (5 : Int32)), (own_cnt p4 (6 : Int32))])), .val (.int ex), .val (.int (1 : Int32)), .unset] [(.int (3 : Int32)), (.int (3 : Int32))])) t
        refine XS.icmpNo X192.here hx rfl (hb hby at_382) rfl (flt (by decide : ¬ ((3 : Int32) < (3 : Int32)))).1 ?_
        refine XS.aload X192.here hx rfl (hb hby at_385) rfl rfl ?_
        refine XS.iconst X192.here hx rfl (hb hby at_387) ?_
        exact k
      obtain ⟨cl197, Ar197, -, S197, M197, Ha197, G197⟩ := id f194
      have hin197 : ¬ ((2 : Int32) < 0 ∨ cl197.slots.size ≤ ((2 : Int32)).toNatClampNeg) := inb_of S197 ⟨by decide, by decide⟩
      have hat197 : cl197.slots[((2 : Int32)).toNatClampNeg]? = some (.int d2) := Has.at Ha197 hin197 rfl
      refine own_go (B := T192.setTop (mkF m 389 #[.val (.int p0), .val (.int p1), .val (.int p2), .val (.int p3), .val (.int p4), .val (.int (3 : Int32)), .val (.int d0), .val (.int d1), .val (.int d2), .val (.ref b154), .val (.ref b169), .val (.int (own_am [d0, d1, d2] [(own_cnt p4 (0 : Int32)), (own_cnt p4 (1 : Int32)), (own_cnt p4 (2 : Int32)), (own_cnt p4 (3 : Int32)), (own_cnt p4 (4 : Int32)), (own_cnt p4 (5 : Int32)), (own_cnt p4 (6 : Int32))])), .val (.int ex), .val (.int (1 : Int32)), .unset] [(.int d2)])) (fun t k => ?_) ?_
      · exact X192.iaload hx (j := (2 : Int32)) (v := (.int d2)) (by rw [e192]; exact Ar197.1) (State.isArrayOf_alike hZ.alike Ar197.2.1) Ar197.2.2 hin197 hat197 (g := (mkF m 388 #[.val (.int p0), .val (.int p1), .val (.int p2), .val (.int p3), .val (.int p4), .val (.int (3 : Int32)), .val (.int d0), .val (.int d1), .val (.int d2), .val (.ref b154), .val (.ref b169), .val (.int (own_am [d0, d1, d2] [(own_cnt p4 (0 : Int32)), (own_cnt p4 (1 : Int32)), (own_cnt p4 (2 : Int32)), (own_cnt p4 (3 : Int32)), (own_cnt p4 (4 : Int32)), (own_cnt p4 (5 : Int32)), (own_cnt p4 (6 : Int32))])), .val (.int ex), .val (.int (1 : Int32)), .unset] [(.int (2 : Int32)), (.ref b169)])) rfl rfl (hb hby at_388) _ k
      refine own_go (B := T192.setTop (mkF m 405 #[.val (.int p0), .val (.int p1), .val (.int p2), .val (.int p3), .val (.int p4), .val (.int (3 : Int32)), .val (.int d0), .val (.int d1), .val (.int d2), .val (.ref b154), .val (.ref b169), .val (.int (own_am [d0, d1, d2] [(own_cnt p4 (0 : Int32)), (own_cnt p4 (1 : Int32)), (own_cnt p4 (2 : Int32)), (own_cnt p4 (3 : Int32)), (own_cnt p4 (4 : Int32)), (own_cnt p4 (5 : Int32)), (own_cnt p4 (6 : Int32))])), .val (.int ex), .val (.int (1 : Int32)), .val (.int (1 : Int32))] [(.int ex), (.int (own_am [d0, d1, d2] [(own_cnt p4 (0 : Int32)), (own_cnt p4 (1 : Int32)), (own_cnt p4 (2 : Int32)), (own_cnt p4 (3 : Int32)), (own_cnt p4 (4 : Int32)), (own_cnt p4 (5 : Int32)), (own_cnt p4 (6 : Int32))]))])) (fun t k => ?_) ?_
      · show Steps p.tables e below (T192.setTop (mkF m 389 #[.val (.int p0), .val (.int p1), .val (.int p2), .val (.int p3), .val (.int p4), .val (.int (3 : Int32)), .val (.int d0), .val (.int d1), .val (.int d2), .val (.ref b154), .val (.ref b169), .val (.int (own_am [d0, d1, d2] [(own_cnt p4 (0 : Int32)), (own_cnt p4 (1 : Int32)), (own_cnt p4 (2 : Int32)), (own_cnt p4 (3 : Int32)), (own_cnt p4 (4 : Int32)), (own_cnt p4 (5 : Int32)), (own_cnt p4 (6 : Int32))])), .val (.int ex), .val (.int (1 : Int32)), .unset] [(.int d2)])) t
        refine XS.iload X192.here hx rfl (hb hby at_389) rfl ?_
        refine XS.icmpNo X192.here hx rfl (hb hby at_391) rfl (teq (rfl : d2 = d2)).2 ?_
        refine XS.iconst X192.here hx rfl (hb hby at_394) ?_
        refine XS.goto X192.here hx rfl (pc0 := 395) (pc' := 399) rfl (hb hby at_395) (by decide) (by decide) ?_
        show Steps p.tables e below (T192.setTop (mkF m 399 #[.val (.int p0), .val (.int p1), .val (.int p2), .val (.int p3), .val (.int p4), .val (.int (3 : Int32)), .val (.int d0), .val (.int d1), .val (.int d2), .val (.ref b154), .val (.ref b169), .val (.int (own_am [d0, d1, d2] [(own_cnt p4 (0 : Int32)), (own_cnt p4 (1 : Int32)), (own_cnt p4 (2 : Int32)), (own_cnt p4 (3 : Int32)), (own_cnt p4 (4 : Int32)), (own_cnt p4 (5 : Int32)), (own_cnt p4 (6 : Int32))])), .val (.int ex), .val (.int (1 : Int32)), .unset] [(.int (1 : Int32))])) t
        refine XS.istore X192.here hx rfl (hb hby at_399) rfl (l' := #[.val (.int p0), .val (.int p1), .val (.int p2), .val (.int p3), .val (.int p4), .val (.int (3 : Int32)), .val (.int d0), .val (.int d1), .val (.int d2), .val (.ref b154), .val (.ref b169), .val (.int (own_am [d0, d1, d2] [(own_cnt p4 (0 : Int32)), (own_cnt p4 (1 : Int32)), (own_cnt p4 (2 : Int32)), (own_cnt p4 (3 : Int32)), (own_cnt p4 (4 : Int32)), (own_cnt p4 (5 : Int32)), (own_cnt p4 (6 : Int32))])), .val (.int ex), .val (.int (1 : Int32)), .val (.int (1 : Int32))]) rfl ?_
        refine XS.iload X192.here hx rfl (hb hby at_401) rfl ?_
        refine XS.iload X192.here hx rfl (hb hby at_403) rfl ?_
        exact k
      have hc198 : (own_am [d0, d1, d2] [(own_cnt p4 (0 : Int32)), (own_cnt p4 (1 : Int32)), (own_cnt p4 (2 : Int32)), (own_cnt p4 (3 : Int32)), (own_cnt p4 (4 : Int32)), (own_cnt p4 (5 : Int32)), (own_cnt p4 (6 : Int32))]) = ex := hex
      refine own_go (B := T192.setTop (mkF m 423 #[.val (.int p0), .val (.int p1), .val (.int p2), .val (.int p3), .val (.int p4), .val (.int (3 : Int32)), .val (.int d0), .val (.int d1), .val (.int d2), .val (.ref b154), .val (.ref b169), .val (.int (own_am [d0, d1, d2] [(own_cnt p4 (0 : Int32)), (own_cnt p4 (1 : Int32)), (own_cnt p4 (2 : Int32)), (own_cnt p4 (3 : Int32)), (own_cnt p4 (4 : Int32)), (own_cnt p4 (5 : Int32)), (own_cnt p4 (6 : Int32))])), .val (.int ex), .val (.int (1 : Int32)), .val (.int (1 : Int32))] [(.int (1 : Int32))])) (fun t k => ?_) ?_
      · show Steps p.tables e below (T192.setTop (mkF m 405 #[.val (.int p0), .val (.int p1), .val (.int p2), .val (.int p3), .val (.int p4), .val (.int (3 : Int32)), .val (.int d0), .val (.int d1), .val (.int d2), .val (.ref b154), .val (.ref b169), .val (.int (own_am [d0, d1, d2] [(own_cnt p4 (0 : Int32)), (own_cnt p4 (1 : Int32)), (own_cnt p4 (2 : Int32)), (own_cnt p4 (3 : Int32)), (own_cnt p4 (4 : Int32)), (own_cnt p4 (5 : Int32)), (own_cnt p4 (6 : Int32))])), .val (.int ex), .val (.int (1 : Int32)), .val (.int (1 : Int32))] [(.int ex), (.int (own_am [d0, d1, d2] [(own_cnt p4 (0 : Int32)), (own_cnt p4 (1 : Int32)), (own_cnt p4 (2 : Int32)), (own_cnt p4 (3 : Int32)), (own_cnt p4 (4 : Int32)), (own_cnt p4 (5 : Int32)), (own_cnt p4 (6 : Int32))]))])) t
        refine XS.icmpNo X192.here hx rfl (hb hby at_405) rfl (teq hc198).2 ?_
        refine XS.iload X192.here hx rfl (hb hby at_408) rfl ?_
        refine XS.ifNo X192.here hx rfl (hb hby at_410) rfl ((if0 _ _).trans (feq (by decide : ¬ ((1 : Int32) = (0 : Int32)))).1) ?_
        refine XS.iload X192.here hx rfl (hb hby at_413) rfl ?_
        show Steps p.tables e below (T192.setTop (mkF m 415 #[.val (.int p0), .val (.int p1), .val (.int p2), .val (.int p3), .val (.int p4), .val (.int (3 : Int32)), .val (.int d0), .val (.int d1), .val (.int d2), .val (.ref b154), .val (.ref b169), .val (.int (own_am [d0, d1, d2] [(own_cnt p4 (0 : Int32)), (own_cnt p4 (1 : Int32)), (own_cnt p4 (2 : Int32)), (own_cnt p4 (3 : Int32)), (own_cnt p4 (4 : Int32)), (own_cnt p4 (5 : Int32)), (own_cnt p4 (6 : Int32))])), .val (.int ex), .val (.int (1 : Int32)), .val (.int (1 : Int32))] [(.int (1 : Int32))])) t
        refine XS.ifNo X192.here hx rfl (hb hby at_415) rfl ((if0 _ _).trans (feq (by decide : ¬ ((1 : Int32) = (0 : Int32)))).1) ?_
        refine XS.iconst X192.here hx rfl (hb hby at_418) ?_
        refine XS.goto X192.here hx rfl (pc0 := 419) (pc' := 423) rfl (hb hby at_419) (by decide) (by decide) ?_
        exact k
      obtain ⟨fs, hr, hrun, hended, hW, hsame⟩ := X192.leave (v := some (.int (1 : Int32))) (fun h => by rw [Bd.returns] at h; cases h)
      refine ⟨_, _, ?_, hrun, hended, _, _, rfl, ?_, ⟨_, rfl⟩, hW, hsame.mono (by decide) (by decide)⟩
      · exact retOut X192 hx (t := .boolean) Bd.returns rfl (Or.inl ⟨rfl, by simp, _, rfl⟩) (hb hby at_423) hr
      · show Q0 Z p0 p1 p2 p3 p4 h0 n0 _ T192.heap _
        rw [e192]
        exact ⟨rfl, N192⟩
    by_cases hc200 : (own_fits (0 : Int32) (3 : Int32) d0 d1 d2 p4) = (0 : Int32)
    · skip
      refine own_go (B := T177.setTop (mkF m 239 #[.val (.int p0), .val (.int p1), .val (.int p2), .val (.int p3), .val (.int p4), .val (.int (3 : Int32)), .val (.int d0), .val (.int d1), .val (.int d2), .val (.ref b154), .val (.ref b169), .val (.int (own_am [d0, d1, d2] [(own_cnt p4 (0 : Int32)), (own_cnt p4 (1 : Int32)), (own_cnt p4 (2 : Int32)), (own_cnt p4 (3 : Int32)), (own_cnt p4 (4 : Int32)), (own_cnt p4 (5 : Int32)), (own_cnt p4 (6 : Int32))])), .unset, .unset, .unset] [(.int (0 : Int32))])) (fun t k => ?_) ?_
      · show Steps p.tables e below (T177.setTop (mkF m 197 #[.val (.int p0), .val (.int p1), .val (.int p2), .val (.int p3), .val (.int p4), .val (.int (3 : Int32)), .val (.int d0), .val (.int d1), .val (.int d2), .val (.ref b154), .val (.ref b169), .val (.int (own_am [d0, d1, d2] [(own_cnt p4 (0 : Int32)), (own_cnt p4 (1 : Int32)), (own_cnt p4 (2 : Int32)), (own_cnt p4 (3 : Int32)), (own_cnt p4 (4 : Int32)), (own_cnt p4 (5 : Int32)), (own_cnt p4 (6 : Int32))])), .unset, .unset, .unset] [(.int (own_fits (0 : Int32) (3 : Int32) d0 d1 d2 p4))])) t
        refine XS.ifYes X177.here hx rfl (pc0 := 197) (pc' := 238) rfl (hb hby at_197) rfl ((if0 _ _).trans (teq hc200).1) (by decide) (by decide) ?_
        refine XS.iconst X177.here hx rfl (hb hby at_238) ?_
        exact k
      exact joinJ _ _ X177 e177 N177 _ (by rw [own_law3 d0 d1 d2]; simp only [if_pos hc200])
    · skip
      refine own_go (B := T177.setTop (mkF m 211 #[.val (.int p0), .val (.int p1), .val (.int p2), .val (.int p3), .val (.int p4), .val (.int (3 : Int32)), .val (.int d0), .val (.int d1), .val (.int d2), .val (.ref b154), .val (.ref b169), .val (.int (own_am [d0, d1, d2] [(own_cnt p4 (0 : Int32)), (own_cnt p4 (1 : Int32)), (own_cnt p4 (2 : Int32)), (own_cnt p4 (3 : Int32)), (own_cnt p4 (4 : Int32)), (own_cnt p4 (5 : Int32)), (own_cnt p4 (6 : Int32))])), .unset, .unset, .unset] [(.int p4), (.int d2), (.int d1), (.int d0), (.int (3 : Int32)), (.int (1 : Int32))])) (fun t k => ?_) ?_
      · show Steps p.tables e below (T177.setTop (mkF m 197 #[.val (.int p0), .val (.int p1), .val (.int p2), .val (.int p3), .val (.int p4), .val (.int (3 : Int32)), .val (.int d0), .val (.int d1), .val (.int d2), .val (.ref b154), .val (.ref b169), .val (.int (own_am [d0, d1, d2] [(own_cnt p4 (0 : Int32)), (own_cnt p4 (1 : Int32)), (own_cnt p4 (2 : Int32)), (own_cnt p4 (3 : Int32)), (own_cnt p4 (4 : Int32)), (own_cnt p4 (5 : Int32)), (own_cnt p4 (6 : Int32))])), .unset, .unset, .unset] [(.int (own_fits (0 : Int32) (3 : Int32) d0 d1 d2 p4))])) t
        refine XS.ifNo X177.here hx rfl (hb hby at_197) rfl ((if0 _ _).trans (feq hc200).1) ?_
        refine XS.iconst X177.here hx rfl (hb hby at_200) ?_
        refine XS.iload X177.here hx rfl (hb hby at_201) rfl ?_
        refine XS.iload X177.here hx rfl (hb hby at_203) rfl ?_
        show Steps p.tables e below (T177.setTop (mkF m 205 #[.val (.int p0), .val (.int p1), .val (.int p2), .val (.int p3), .val (.int p4), .val (.int (3 : Int32)), .val (.int d0), .val (.int d1), .val (.int d2), .val (.ref b154), .val (.ref b169), .val (.int (own_am [d0, d1, d2] [(own_cnt p4 (0 : Int32)), (own_cnt p4 (1 : Int32)), (own_cnt p4 (2 : Int32)), (own_cnt p4 (3 : Int32)), (own_cnt p4 (4 : Int32)), (own_cnt p4 (5 : Int32)), (own_cnt p4 (6 : Int32))])), .unset, .unset, .unset] [(.int d0), (.int (3 : Int32)), (.int (1 : Int32))])) t
        refine XS.iload X177.here hx rfl (hb hby at_205) rfl ?_
        refine XS.iload X177.here hx rfl (hb hby at_207) rfl ?_
        refine XS.iload X177.here hx rfl (hb hby at_209) rfl ?_
        exact k
      obtain ⟨_, _, ⟨T201, L201, k201, n201⟩, -, X201, ⟨Lc201, hQ201, l201, y201, z201⟩, st201⟩ := Jvm.LawKit.callS X177 hx (y := (⟨"com/example/rollhaus/rollhaus/dice/FacesAmongPinLaw", "fits", "(IIIIII)Z"⟩ : MethodName)) hown (mvT hZ (hw _ (List.mem_of_getElem? (i := 18) rfl))) (mvT hZ (hw _ (List.mem_of_getElem? (i := 19) rfl))) (mvT hZ (hw _ (List.mem_of_getElem? (i := 3) rfl))) (mvT hZ (hw _ (List.mem_of_getElem? (i := 20) rfl))) (by decide) (backOf (W := 0) (rm2 l Z a0 hw [] (1 : Int32) (3 : Int32) d0 d1 d2 p4  T174.heap n0 (Nat.le_trans Z0 K174.1) ) hZ (hw _ (List.mem_of_getElem? (i := 20) rfl)) (hw _ (List.mem_of_getElem? (i := 3) rfl)) (by decide) (by decide)) (g := (mkF m 211 #[.val (.int p0), .val (.int p1), .val (.int p2), .val (.int p3), .val (.int p4), .val (.int (3 : Int32)), .val (.int d0), .val (.int d1), .val (.int d2), .val (.ref b154), .val (.ref b169), .val (.int (own_am [d0, d1, d2] [(own_cnt p4 (0 : Int32)), (own_cnt p4 (1 : Int32)), (own_cnt p4 (2 : Int32)), (own_cnt p4 (3 : Int32)), (own_cnt p4 (4 : Int32)), (own_cnt p4 (5 : Int32)), (own_cnt p4 (6 : Int32))])), .unset, .unset, .unset] [(.int p4), (.int d2), (.int d1), (.int d0), (.int (3 : Int32)), (.int (1 : Int32))])) rfl (by rw [hml]; rfl) (argsL := [(.int (1 : Int32)), (.int (3 : Int32)), (.int d0), (.int d1), (.int d2), (.int p4)]) (rest := []) (lenOf pd0_2 rfl) rfl (by show 2 * 0 + _ ≤ _; exact Nat.le_of_eq rfl) (hb hby at_211) (fun _ _ => ⟨rfl, e177, (by decide : 3 + 0 ≤ _), (by decide : 17 + 0 ≤ _)⟩)
      dsimp only [Pt.U, Pt.locs, Pt.cells, Pt.slots] at X201 l201 y201 z201 st201 hQ201
      subst y201 z201
      have X201 : Stand p l e room_1 s m #[(.int p0), (.int p1), (.int p2), (.int p3), (.int p4)] below meth c T201 _ 3 17 := X201
      obtain ⟨rfl, N201q, e201⟩ := hQ201
      have N201 : Fr n0 L201 := by rw [l201]; exact Fr.app N177 N201q
      refine own_go (st201) ?_
      show own_Fin p.tables e below (T201.setTop (mkF m 214 #[.val (.int p0), .val (.int p1), .val (.int p2), .val (.int p3), .val (.int p4), .val (.int (3 : Int32)), .val (.int d0), .val (.int d1), .val (.int d2), .val (.ref b154), .val (.ref b169), .val (.int (own_am [d0, d1, d2] [(own_cnt p4 (0 : Int32)), (own_cnt p4 (1 : Int32)), (own_cnt p4 (2 : Int32)), (own_cnt p4 (3 : Int32)), (own_cnt p4 (4 : Int32)), (own_cnt p4 (5 : Int32)), (own_cnt p4 (6 : Int32))])), .unset, .unset, .unset] [(.int (own_fits (1 : Int32) (3 : Int32) d0 d1 d2 p4))])) _
      by_cases hc202 : (own_fits (1 : Int32) (3 : Int32) d0 d1 d2 p4) = (0 : Int32)
      · skip
        refine own_go (B := T201.setTop (mkF m 239 #[.val (.int p0), .val (.int p1), .val (.int p2), .val (.int p3), .val (.int p4), .val (.int (3 : Int32)), .val (.int d0), .val (.int d1), .val (.int d2), .val (.ref b154), .val (.ref b169), .val (.int (own_am [d0, d1, d2] [(own_cnt p4 (0 : Int32)), (own_cnt p4 (1 : Int32)), (own_cnt p4 (2 : Int32)), (own_cnt p4 (3 : Int32)), (own_cnt p4 (4 : Int32)), (own_cnt p4 (5 : Int32)), (own_cnt p4 (6 : Int32))])), .unset, .unset, .unset] [(.int (0 : Int32))])) (fun t k => ?_) ?_
        · show Steps p.tables e below (T201.setTop (mkF m 214 #[.val (.int p0), .val (.int p1), .val (.int p2), .val (.int p3), .val (.int p4), .val (.int (3 : Int32)), .val (.int d0), .val (.int d1), .val (.int d2), .val (.ref b154), .val (.ref b169), .val (.int (own_am [d0, d1, d2] [(own_cnt p4 (0 : Int32)), (own_cnt p4 (1 : Int32)), (own_cnt p4 (2 : Int32)), (own_cnt p4 (3 : Int32)), (own_cnt p4 (4 : Int32)), (own_cnt p4 (5 : Int32)), (own_cnt p4 (6 : Int32))])), .unset, .unset, .unset] [(.int (own_fits (1 : Int32) (3 : Int32) d0 d1 d2 p4))])) t
          refine XS.ifYes X201.here hx rfl (pc0 := 214) (pc' := 238) rfl (hb hby at_214) rfl ((if0 _ _).trans (teq hc202).1) (by decide) (by decide) ?_
          refine XS.iconst X201.here hx rfl (hb hby at_238) ?_
          exact k
        exact joinJ _ _ X201 e201 N201 _ (by rw [own_law3 d0 d1 d2]; simp only [if_neg hc200, if_pos hc202])
      · skip
        refine own_go (B := T201.setTop (mkF m 228 #[.val (.int p0), .val (.int p1), .val (.int p2), .val (.int p3), .val (.int p4), .val (.int (3 : Int32)), .val (.int d0), .val (.int d1), .val (.int d2), .val (.ref b154), .val (.ref b169), .val (.int (own_am [d0, d1, d2] [(own_cnt p4 (0 : Int32)), (own_cnt p4 (1 : Int32)), (own_cnt p4 (2 : Int32)), (own_cnt p4 (3 : Int32)), (own_cnt p4 (4 : Int32)), (own_cnt p4 (5 : Int32)), (own_cnt p4 (6 : Int32))])), .unset, .unset, .unset] [(.int p4), (.int d2), (.int d1), (.int d0), (.int (3 : Int32)), (.int (2 : Int32))])) (fun t k => ?_) ?_
        · show Steps p.tables e below (T201.setTop (mkF m 214 #[.val (.int p0), .val (.int p1), .val (.int p2), .val (.int p3), .val (.int p4), .val (.int (3 : Int32)), .val (.int d0), .val (.int d1), .val (.int d2), .val (.ref b154), .val (.ref b169), .val (.int (own_am [d0, d1, d2] [(own_cnt p4 (0 : Int32)), (own_cnt p4 (1 : Int32)), (own_cnt p4 (2 : Int32)), (own_cnt p4 (3 : Int32)), (own_cnt p4 (4 : Int32)), (own_cnt p4 (5 : Int32)), (own_cnt p4 (6 : Int32))])), .unset, .unset, .unset] [(.int (own_fits (1 : Int32) (3 : Int32) d0 d1 d2 p4))])) t
          refine XS.ifNo X201.here hx rfl (hb hby at_214) rfl ((if0 _ _).trans (feq hc202).1) ?_
          refine XS.iconst X201.here hx rfl (hb hby at_217) ?_
          refine XS.iload X201.here hx rfl (hb hby at_218) rfl ?_
          refine XS.iload X201.here hx rfl (hb hby at_220) rfl ?_
          show Steps p.tables e below (T201.setTop (mkF m 222 #[.val (.int p0), .val (.int p1), .val (.int p2), .val (.int p3), .val (.int p4), .val (.int (3 : Int32)), .val (.int d0), .val (.int d1), .val (.int d2), .val (.ref b154), .val (.ref b169), .val (.int (own_am [d0, d1, d2] [(own_cnt p4 (0 : Int32)), (own_cnt p4 (1 : Int32)), (own_cnt p4 (2 : Int32)), (own_cnt p4 (3 : Int32)), (own_cnt p4 (4 : Int32)), (own_cnt p4 (5 : Int32)), (own_cnt p4 (6 : Int32))])), .unset, .unset, .unset] [(.int d0), (.int (3 : Int32)), (.int (2 : Int32))])) t
          refine XS.iload X201.here hx rfl (hb hby at_222) rfl ?_
          refine XS.iload X201.here hx rfl (hb hby at_224) rfl ?_
          refine XS.iload X201.here hx rfl (hb hby at_226) rfl ?_
          exact k
        obtain ⟨_, _, ⟨T203, L203, k203, n203⟩, -, X203, ⟨Lc203, hQ203, l203, y203, z203⟩, st203⟩ := Jvm.LawKit.callS X201 hx (y := (⟨"com/example/rollhaus/rollhaus/dice/FacesAmongPinLaw", "fits", "(IIIIII)Z"⟩ : MethodName)) hown (mvT hZ (hw _ (List.mem_of_getElem? (i := 18) rfl))) (mvT hZ (hw _ (List.mem_of_getElem? (i := 19) rfl))) (mvT hZ (hw _ (List.mem_of_getElem? (i := 3) rfl))) (mvT hZ (hw _ (List.mem_of_getElem? (i := 20) rfl))) (by decide) (backOf (W := 0) (rm2 l Z a0 hw [] (2 : Int32) (3 : Int32) d0 d1 d2 p4  T174.heap n0 (Nat.le_trans Z0 K174.1) ) hZ (hw _ (List.mem_of_getElem? (i := 20) rfl)) (hw _ (List.mem_of_getElem? (i := 3) rfl)) (by decide) (by decide)) (g := (mkF m 228 #[.val (.int p0), .val (.int p1), .val (.int p2), .val (.int p3), .val (.int p4), .val (.int (3 : Int32)), .val (.int d0), .val (.int d1), .val (.int d2), .val (.ref b154), .val (.ref b169), .val (.int (own_am [d0, d1, d2] [(own_cnt p4 (0 : Int32)), (own_cnt p4 (1 : Int32)), (own_cnt p4 (2 : Int32)), (own_cnt p4 (3 : Int32)), (own_cnt p4 (4 : Int32)), (own_cnt p4 (5 : Int32)), (own_cnt p4 (6 : Int32))])), .unset, .unset, .unset] [(.int p4), (.int d2), (.int d1), (.int d0), (.int (3 : Int32)), (.int (2 : Int32))])) rfl (by rw [hml]; rfl) (argsL := [(.int (2 : Int32)), (.int (3 : Int32)), (.int d0), (.int d1), (.int d2), (.int p4)]) (rest := []) (lenOf pd0_2 rfl) rfl (by show 2 * 0 + _ ≤ _; exact Nat.le_of_eq rfl) (hb hby at_228) (fun _ _ => ⟨rfl, e201, (by decide : 3 + 0 ≤ _), (by decide : 17 + 0 ≤ _)⟩)
        dsimp only [Pt.U, Pt.locs, Pt.cells, Pt.slots] at X203 l203 y203 z203 st203 hQ203
        subst y203 z203
        have X203 : Stand p l e room_1 s m #[(.int p0), (.int p1), (.int p2), (.int p3), (.int p4)] below meth c T203 _ 3 17 := X203
        obtain ⟨rfl, N203q, e203⟩ := hQ203
        have N203 : Fr n0 L203 := by rw [l203]; exact Fr.app N201 N203q
        refine own_go (st203) ?_
        show own_Fin p.tables e below (T203.setTop (mkF m 231 #[.val (.int p0), .val (.int p1), .val (.int p2), .val (.int p3), .val (.int p4), .val (.int (3 : Int32)), .val (.int d0), .val (.int d1), .val (.int d2), .val (.ref b154), .val (.ref b169), .val (.int (own_am [d0, d1, d2] [(own_cnt p4 (0 : Int32)), (own_cnt p4 (1 : Int32)), (own_cnt p4 (2 : Int32)), (own_cnt p4 (3 : Int32)), (own_cnt p4 (4 : Int32)), (own_cnt p4 (5 : Int32)), (own_cnt p4 (6 : Int32))])), .unset, .unset, .unset] [(.int (own_fits (2 : Int32) (3 : Int32) d0 d1 d2 p4))])) _
        by_cases hc204 : (own_fits (2 : Int32) (3 : Int32) d0 d1 d2 p4) = (0 : Int32)
        · skip
          refine own_go (B := T203.setTop (mkF m 239 #[.val (.int p0), .val (.int p1), .val (.int p2), .val (.int p3), .val (.int p4), .val (.int (3 : Int32)), .val (.int d0), .val (.int d1), .val (.int d2), .val (.ref b154), .val (.ref b169), .val (.int (own_am [d0, d1, d2] [(own_cnt p4 (0 : Int32)), (own_cnt p4 (1 : Int32)), (own_cnt p4 (2 : Int32)), (own_cnt p4 (3 : Int32)), (own_cnt p4 (4 : Int32)), (own_cnt p4 (5 : Int32)), (own_cnt p4 (6 : Int32))])), .unset, .unset, .unset] [(.int (0 : Int32))])) (fun t k => ?_) ?_
          · show Steps p.tables e below (T203.setTop (mkF m 231 #[.val (.int p0), .val (.int p1), .val (.int p2), .val (.int p3), .val (.int p4), .val (.int (3 : Int32)), .val (.int d0), .val (.int d1), .val (.int d2), .val (.ref b154), .val (.ref b169), .val (.int (own_am [d0, d1, d2] [(own_cnt p4 (0 : Int32)), (own_cnt p4 (1 : Int32)), (own_cnt p4 (2 : Int32)), (own_cnt p4 (3 : Int32)), (own_cnt p4 (4 : Int32)), (own_cnt p4 (5 : Int32)), (own_cnt p4 (6 : Int32))])), .unset, .unset, .unset] [(.int (own_fits (2 : Int32) (3 : Int32) d0 d1 d2 p4))])) t
            refine XS.ifYes X203.here hx rfl (pc0 := 231) (pc' := 238) rfl (hb hby at_231) rfl ((if0 _ _).trans (teq hc204).1) (by decide) (by decide) ?_
            refine XS.iconst X203.here hx rfl (hb hby at_238) ?_
            exact k
          exact joinJ _ _ X203 e203 N203 _ (by rw [own_law3 d0 d1 d2]; simp only [if_neg hc200, if_neg hc202, if_pos hc204])
        · skip
          refine own_go (B := T203.setTop (mkF m 239 #[.val (.int p0), .val (.int p1), .val (.int p2), .val (.int p3), .val (.int p4), .val (.int (3 : Int32)), .val (.int d0), .val (.int d1), .val (.int d2), .val (.ref b154), .val (.ref b169), .val (.int (own_am [d0, d1, d2] [(own_cnt p4 (0 : Int32)), (own_cnt p4 (1 : Int32)), (own_cnt p4 (2 : Int32)), (own_cnt p4 (3 : Int32)), (own_cnt p4 (4 : Int32)), (own_cnt p4 (5 : Int32)), (own_cnt p4 (6 : Int32))])), .unset, .unset, .unset] [(.int (1 : Int32))])) (fun t k => ?_) ?_
          · show Steps p.tables e below (T203.setTop (mkF m 231 #[.val (.int p0), .val (.int p1), .val (.int p2), .val (.int p3), .val (.int p4), .val (.int (3 : Int32)), .val (.int d0), .val (.int d1), .val (.int d2), .val (.ref b154), .val (.ref b169), .val (.int (own_am [d0, d1, d2] [(own_cnt p4 (0 : Int32)), (own_cnt p4 (1 : Int32)), (own_cnt p4 (2 : Int32)), (own_cnt p4 (3 : Int32)), (own_cnt p4 (4 : Int32)), (own_cnt p4 (5 : Int32)), (own_cnt p4 (6 : Int32))])), .unset, .unset, .unset] [(.int (own_fits (2 : Int32) (3 : Int32) d0 d1 d2 p4))])) t
            refine XS.ifNo X203.here hx rfl (hb hby at_231) rfl ((if0 _ _).trans (feq hc204).1) ?_
            refine XS.iconst X203.here hx rfl (hb hby at_234) ?_
            refine XS.goto X203.here hx rfl (pc0 := 235) (pc' := 239) rfl (hb hby at_235) (by decide) (by decide) ?_
            exact k
          exact joinJ _ _ X203 e203 N203 _ (by rw [own_law3 d0 d1 d2]; simp only [if_neg hc200, if_neg hc202, if_neg hc204])
set_option maxRecDepth 65536 in
set_option maxHeartbeats 40000000 in
theorem comes_1 {Post : Tables → Env → Array Value → State → Outcome → State → Prop} (hpost : ∀ tb e args s v u, (limb_1_1.after args s (.returned v) u = true ∧ limb_1_2.after args s (.returned v) u = true ∧ True) → FrameEnd s (.returned v) u (Jvm.fieldLocs frame_1_writes args s ++ Jvm.arrayLocs frame_1_arrays args s ++ Jvm.staticLocs frame_1_statics s) 16 128 → Post tb e args s (.returned v) u) :
    ArmFor flags0 classFile x code maxLocals ret World_1 tables_1 room_1 Calls_1 rest_1 Pre_1 Post := by
  intro l hfl _ _ p e ha hc hk s m args below hf hA hF happ hP
  obtain ⟨hcalls, hrest, hpre⟩ := hP
  obtain ⟨-, -, -, hnamed, -, -, -, hat⟩ := (Spec.applies_iff hf).mp happ
  obtain ⟨hg, hn⟩ := and_e (Cond.before_iff.mp (show (Jvm.Cond.and given_1 narrow_1).before args s = true from hpre))
  obtain ⟨hcnt, hv0⟩ := and_e hg
  obtain ⟨hk0, hv1⟩ := and_e hv0
  obtain ⟨hk1, hv2⟩ := and_e hv1
  obtain ⟨hk2, hv3⟩ := and_e hv2
  obtain ⟨hk3, hv4⟩ := and_e hv3
  have hk4 := hv4
  obtain ⟨w0, w1, w2, w3, w4, rfl⟩ : ∃ w0 w1 w2 w3 w4 : Value, args = #[w0, w1, w2, w3, w4] := by
    have hs : args.size = 5 := by simpa [Cond.value, given_1] using hcnt
    obtain ⟨L⟩ := args
    match L, hs with
    | [w0, w1, w2, w3, w4], _ => exact ⟨w0, w1, w2, w3, w4, rfl⟩
  have hw := fun d (hd : d ∈ tables_1) => atoms_spec (ws := Jvm.Cond.code x code maxLocals ret :: tables_1) hat d (List.mem_cons_of_mem _ hd)
  have hfit : Fit s := fun {y c} hc i hi => by
    obtain ⟨ha, rfl⟩ := Array.getElem?_eq_some_iff.mp hc
    have q := List.all_eq_true.mp ((Array.all_eq_true_iff_forall_mem.mp hF) _ (Array.getElem_mem ha)) i (List.mem_range.mpr hi)
    simpa [Array.getElem?_eq_getElem hi] using q
  obtain ⟨i0, ei0⟩ := is_v hk0
  obtain rfl : w0 = (.int i0) := Option.some.inj ei0
  obtain ⟨i1, ei1⟩ := is_v hk1
  obtain rfl : w1 = (.int i1) := Option.some.inj ei1
  obtain ⟨i2, ei2⟩ := is_v hk2
  obtain rfl : w2 = (.int i2) := Option.some.inj ei2
  obtain ⟨i3, ei3⟩ := is_v hk3
  obtain rfl : w3 = (.int i3) := Option.some.inj ei3
  obtain ⟨i4, ei4⟩ := is_v hk4
  obtain rfl : w4 = (.int i4) := Option.some.inj ei4
  obtain ⟨n, o, h1, h2, h3, _, L, rfl, ⟨rfl, N⟩, hq⟩ := rm0 l s _ hw tables_1 i0 i1 i2 i3 i4  s.heap s.heap.size (Nat.le_refl _)  p e ha hc hk s m _ below hf ((Spec.applies_iff_loose hf).mp happ).1 ⟨rfl, State.Warmed39.refl s, rfl⟩ trivial
  refine ⟨n, _, h1, h2, h3, hpost _ _ _ _ _ _ ⟨Cond.after_iff.mpr rfl, Cond.after_iff.mpr (eq_i res_at (Term.int_eval (1)) rfl), trivial⟩ ⟨hq.1, hq.2.1, (hq.2.2.sift fun y hy => Or.inr (N y hy)).mono (by decide) (by decide)⟩⟩
theorem main_1_1 : Claimed_1_1 := comes_1 fun _ _ _ _ _ _ h hF => ⟨h.1, hF⟩
theorem main_1_2 : Claimed_1_2 := comes_1 fun _ _ _ _ _ _ h hF => ⟨h.2.1, hF⟩
end Jvm.Pilot.@@N@@
namespace Jvm.Pilot.@@N@@
open Jvm Jvm.ClassFile Sem Op Lib Jvm.Free Jvm.Stand Jvm.Pilot.@@N@@.Jvm.D
/-! MADE BY PROGRAM (witnessworld.py) out of the Statement's table words and the real class files: 9 classes; the members and pool entries that the words name. The judged class is class 1, her method 1. -/
namespace start1
open Jvm.ClassFile
def u (s : String) : CpInfo := .utf8 (stringToUtf16 s)
/-- a pool by its gaps: so many unusable entries, then the entry; so many at the end -/
def gap : Nat → List CpInfo → List CpInfo
  | 0, r => r
  | n + 1, r => .unusable :: gap n r
def poolList (es : List (Nat × CpInfo)) (last : Nat) : List CpInfo := es.foldr (fun e r => gap e.1 (e.2 :: r)) (gap last [])
def pool (es : List (Nat × CpInfo)) (last : Nat) : Array CpInfo := ⟨poolList es last⟩
def fileOf (pool : Array CpInfo) (this : Nat) (attrs : Array Attribute := #[]) (ms : Array MethodInfo := #[]) (fl : Nat := 33) (sup : Nat := 0) (ifs : Array Nat := #[]) (fds : Array FieldInfo := #[]) : ClassFile where
  minorVersion := 0
  majorVersion := 65
  constantPool := pool
  accessFlags := fl
  thisClass := this
  superClass := sup
  interfaces := ifs
  fields := fds
  methods := ms
  attributes := attrs
def plain (name : String) (sup : Option ClassId) : Class where
  name := name
  kind := .ordinary
  loader := none
  accessFlags := 33
  super := sup
  interfaces := #[]
  cf := none
  fields := #[]
  methods := #[]
  instanceTypes := #[]
  staticTypes := #[]
  resolved := #[]
  callSites := []
  init := .initialized
  statics := none
  mirror := none

def pool0 : Array CpInfo := pool [(5, u "<init>"), (0, u "()V"), (1, .class_ 10), (1, u "java/lang/Object"), (85, u "clone"), (0, u "()Ljava/lang/Object;")] 26

def k0m0 : Method := { name := "<init>", desc := "()V", sig := { parameters := [], returnType := none }, accessFlags := 1, code := none }
def k0m1 : Method := { name := "clone", desc := "()Ljava/lang/Object;", sig := { parameters := [], returnType := some (.object "java/lang/Object") }, accessFlags := 260, code := none }
/-- java/lang/Object -/
def k0 : Class := { plain "java/lang/Object" none with
  accessFlags := 33
  interfaces := #[]
  cf := some (fileOf pool0 8 #[] #[{ accessFlags := 1, nameIndex := 5, descriptorIndex := 6, attributes := #[] }, { accessFlags := 260, nameIndex := 96, descriptorIndex := 97, attributes := #[] }] 33 0 #[] #[])
  fields := #[]
  methods := #[k0m0, k0m1]
  instanceTypes := #[]
  staticTypes := #[]
  resolved := Array.replicate 124 none
  statics := none }

def pool1 : Array CpInfo := pool [(2, .class_ 4), (1, u "java/lang/Object"), (0, u "<init>"), (0, u "()V"), (0, .methodref 8 9), (0, .class_ 10), (0, .nameAndType 11 12), (0, u "com/example/rollhaus/rollhaus/dice/FacesAmongPinLaw"), (0, u "cnt"), (0, u "(II)I"), (0, .methodref 14 15), (0, .class_ 16), (0, .nameAndType 17 18), (0, u "com/example/rollhaus/rollhaus/dice/Faces"), (0, u "among"), (0, u "([I[I)Z"), (0, .methodref 8 20), (0, .nameAndType 21 22), (0, u "fits"), (0, u "(IIIIII)Z"), (2, u "law"), (0, u "(IIIII)Z")] 5

def k1m0 : Method := { name := "<init>", desc := "()V", sig := { parameters := [], returnType := none }, accessFlags := 1, code := none }
def k1c1 : Code := { maxStack := 6, maxLocals := 15, code := code, exceptionTable := #[], attributes := #[] }
def k1m1 : Method := { name := "law", desc := "(IIIII)Z", sig := { parameters := [.int, .int, .int, .int, .int], returnType := some .boolean }, accessFlags := 9, code := some k1c1 }
def k1c2 : Code := { maxStack := 3, maxLocals := 2, code := method_3_code, exceptionTable := #[], attributes := #[] }
def k1m2 : Method := { name := "cnt", desc := "(II)I", sig := { parameters := [.int, .int], returnType := some .int }, accessFlags := 10, code := some k1c2 }
def k1c3 : Code := { maxStack := 3, maxLocals := 8, code := method_4_code, exceptionTable := #[], attributes := #[] }
def k1m3 : Method := { name := "fits", desc := "(IIIIII)Z", sig := { parameters := [.int, .int, .int, .int, .int, .int], returnType := some .boolean }, accessFlags := 10, code := some k1c3 }
/-- com/example/rollhaus/rollhaus/dice/FacesAmongPinLaw -/
def k1 : Class := { plain "com/example/rollhaus/rollhaus/dice/FacesAmongPinLaw" (some 0) with
  accessFlags := 49
  interfaces := #[]
  cf := some (fileOf pool1 8 #[] #[{ accessFlags := 1, nameIndex := 5, descriptorIndex := 6, attributes := #[] }, { accessFlags := 9, nameIndex := 25, descriptorIndex := 26, attributes := #[] }, { accessFlags := 10, nameIndex := 11, descriptorIndex := 12, attributes := #[] }, { accessFlags := 10, nameIndex := 21, descriptorIndex := 22, attributes := #[] }] 49 2 #[] #[])
  fields := #[]
  methods := #[k1m0, k1m1, k1m2, k1m3]
  instanceTypes := #[]
  staticTypes := #[]
  resolved := Array.replicate 32 none
  statics := none }

def pool2 : Array CpInfo := pool [(2, .class_ 4), (1, u "java/lang/Object"), (0, u "<init>"), (0, u "()V"), (12, .class_ 21), (1, u "com/example/rollhaus/rollhaus/dice/Faces"), (2, .methodref 25 26), (0, .class_ 27), (0, .nameAndType 28 29), (0, u "[I"), (0, u "clone"), (0, u "()Ljava/lang/Object;"), (53, u "among"), (0, u "([I[I)Z")] 27

def k2m0 : Method := { name := "<init>", desc := "()V", sig := { parameters := [], returnType := none }, accessFlags := 2, code := none }
def k2c1 : Code := { maxStack := 4, maxLocals := 7, code := prog_26_method_4_code, exceptionTable := #[], attributes := #[] }
def k2m1 : Method := { name := "among", desc := "([I[I)Z", sig := { parameters := [(.array .int), (.array .int)], returnType := some .boolean }, accessFlags := 9, code := some k2c1 }
/-- com/example/rollhaus/rollhaus/dice/Faces -/
def k2 : Class := { plain "com/example/rollhaus/rollhaus/dice/Faces" (some 0) with
  accessFlags := 49
  interfaces := #[]
  cf := some (fileOf pool2 19 #[] #[{ accessFlags := 2, nameIndex := 5, descriptorIndex := 6, attributes := #[] }, { accessFlags := 9, nameIndex := 83, descriptorIndex := 84, attributes := #[] }] 49 2 #[] #[])
  fields := #[]
  methods := #[k2m0, k2m1]
  instanceTypes := #[]
  staticTypes := #[]
  resolved := Array.replicate 112 none
  statics := none }

def pool3 : Array CpInfo := pool [(1, .class_ 2), (0, u "java/lang/Cloneable"), (0, .class_ 4), (0, u "java/lang/Object")] 2

/-- java/lang/Cloneable -/
def k3 : Class := { plain "java/lang/Cloneable" (some 0) with
  accessFlags := 1537
  interfaces := #[]
  cf := some (fileOf pool3 1 #[] #[] 1537 3 #[] #[])
  fields := #[]
  methods := #[]
  instanceTypes := #[]
  staticTypes := #[]
  resolved := Array.replicate 7 none
  statics := none }

def pool4 : Array CpInfo := pool [(1, u "java/io/Serializable"), (0, .class_ 1), (0, u "java/lang/Object"), (0, .class_ 3)] 3

/-- java/io/Serializable -/
def k4 : Class := { plain "java/io/Serializable" (some 0) with
  accessFlags := 1537
  interfaces := #[]
  cf := some (fileOf pool4 2 #[] #[] 1537 4 #[] #[])
  fields := #[]
  methods := #[]
  instanceTypes := #[]
  staticTypes := #[]
  resolved := Array.replicate 8 none
  statics := none }

/-- the primitive byte -/
def k5 : Class := { plain "byte" none with kind := .primitive 'B', accessFlags := 0x411 }
/-- [B -/
def k6 : Class := { plain "[B" (some 0) with kind := .array 5 .byte, interfaces := #[3, 4], accessFlags := 1041 }

/-- the primitive int -/
def k7 : Class := { plain "int" none with kind := .primitive 'I', accessFlags := 0x411 }
/-- [I -/
def k8 : Class := { plain "[I" (some 0) with kind := .array 7 .int, interfaces := #[3, 4], accessFlags := 1041 }

def heap : Heap := #[]
def classes : Array Class := #[k0, k1, k2, k3, k4, k5, k6, k7, k8]
def interned : List (Array UInt16 × Addr) := []
def slotsUsed : Nat := 0
def theMethod : MethodId := ⟨1, 1⟩
def args0 : Array Value := #[.int 1, .int 2, .int 3, .int 1, .int 2]
def aboutOver (below : List Frame) : State where
  vm := { classes := classes, interned := interned.toArray }
  heap := heap
  slotsUsed := slotsUsed
  threads := #[{ frames := .invoking theMethod args0 :: below }]
def below0 : List Frame := [.native { method := ⟨0, 0⟩, args := #[] }]
def about1 : State := aboutOver below0
def p0 : Program := .bare "" "" ""
def e0 : Env := launch0.env 0 0 0
theorem w_frames : about1.frames = Frame.invoking theMethod args0 :: below0 := rfl
set_option maxRecDepth 65536 in
theorem w_args : argsFit about1.vm theMethod args0 = true := by decide +kernel
set_option maxRecDepth 65536 in
theorem w_heap : heapFits about1 = true := by decide +kernel
set_option maxRecDepth 65536 in
theorem w_runnable : about1.curStatus? = some .runnable := by decide +kernel
set_option maxRecDepth 65536 in
theorem w_alone : about1.alone = true := by decide +kernel
set_option maxRecDepth 65536 in
theorem w_named : about1.methodNamed? x = some theMethod := by decide +kernel
set_option maxRecDepth 65536 in
theorem w_hears : about1.hears theMethod below0 = true := by decide +kernel
set_option maxRecDepth 65536 in
theorem w_ripe : about1.ripe theMethod args0 below0 = true := by decide +kernel
theorem w_running : about1.status = .running := rfl
set_option maxRecDepth 65536 in
theorem w_room : about1.hasRoom e0.platform room_1 = true :=
  launch0.hasRoom_least _ room_1 (by decide +kernel) (by decide +kernel) (by decide +kernel) (by decide +kernel) (by decide +kernel) (by decide +kernel)
theorem allAtoms_all (ts : List Jvm.Cond) (a : Array Jvm.Value) (st : Jvm.State) : (allAtoms ts).before a st = ts.all (fun c => c.before a st) := by
  induction ts with
  | nil => rfl
  | cons c t ih =>
    show (Jvm.Cond.and c (allAtoms t)).before a st = _
    rw [Jvm.Cond.before_and, ih, List.all_cons]
def words1 : List Jvm.Cond := Jvm.Cond.code x code maxLocals ret :: tables_1
/-- a 'code' word, met by the world's own term for the bytes: nothing is compared byte by byte -/
theorem code_word {y : MethodName} {bytes : ByteArray} {mx : Nat} {rt : Option FieldType} {a : Array Value} {s : State} {m : MethodId} {meth : Method} {c : Code} (h1 : s.methodNamed? y = some m) (h2 : s.vm.method? m = some meth) (h3 : meth.code = some c) (h4 : c.code = bytes)
    (h5 : (c.maxLocals == mx && c.exceptionTable.isEmpty && decide (c.maxStack ≤ mostOperands) && decide (meth.sig.returnType = rt) && !meth.locks && decide (parseMethodDescriptor y.desc = some meth.sig)) = true) : (Jvm.Cond.code y bytes mx rt).before a s = true := by
  simp only [Bool.and_eq_true, beq_iff_eq, Bool.not_eq_true', decide_eq_true_eq] at h5
  obtain ⟨⟨⟨⟨⟨g1, g2⟩, g3⟩, g4⟩, g5⟩, g6⟩ := h5
  simp [Cond.before, Cond.holds, Cond.value, h1, h2, h3, h4, g1, g2, g3, g4, g5, g6]
def isCode : Jvm.Cond → Bool
  | .code _ _ _ _ => true
  | _ => false
theorem all_split {L : List Jvm.Cond} {P : Jvm.Cond → Bool} (h1 : L.all (fun c => isCode c || P c) = true) (h2 : ∀ c ∈ L.filter isCode, P c = true) : L.all P = true := by
  refine List.all_eq_true.mpr fun c hc => ?_
  have h := List.all_eq_true.mp h1 c hc
  rcases Bool.eq_false_or_eq_true (isCode c) with hi | hi
  · exact h2 c (List.mem_filter.mpr ⟨hc, hi⟩)
  · simpa [hi] using h
set_option maxRecDepth 65536 in
theorem w_c0 : (Jvm.Cond.code x code maxLocals ret).before args0 about1 = true := code_word (m := ⟨1, 1⟩) (meth := k1m1) (c := k1c1) (by decide +kernel) rfl rfl rfl (by decide +kernel)
set_option maxRecDepth 65536 in
theorem w_c1 : (Jvm.Cond.code ({ cls := "com/example/rollhaus/rollhaus/dice/FacesAmongPinLaw", name := "cnt", desc := "(II)I" } : Jvm.MethodName) method_3_code (2 : Nat) (Option.some Jvm.ClassFile.FieldType.int)).before args0 about1 = true := code_word (m := ⟨1, 2⟩) (meth := k1m2) (c := k1c2) (by decide +kernel) rfl rfl rfl (by decide +kernel)
set_option maxRecDepth 65536 in
theorem w_c2 : (Jvm.Cond.code ({ cls := "com/example/rollhaus/rollhaus/dice/Faces", name := "among", desc := "([I[I)Z" } : Jvm.MethodName) prog_26_method_4_code (7 : Nat) (Option.some Jvm.ClassFile.FieldType.boolean)).before args0 about1 = true := code_word (m := ⟨2, 1⟩) (meth := k2m1) (c := k2c1) (by decide +kernel) rfl rfl rfl (by decide +kernel)
set_option maxRecDepth 65536 in
theorem w_c3 : (Jvm.Cond.code ({ cls := "com/example/rollhaus/rollhaus/dice/FacesAmongPinLaw", name := "fits", desc := "(IIIIII)Z" } : Jvm.MethodName) method_4_code (8 : Nat) (Option.some Jvm.ClassFile.FieldType.boolean)).before args0 about1 = true := code_word (m := ⟨1, 3⟩) (meth := k1m3) (c := k1c3) (by decide +kernel) rfl rfl rfl (by decide +kernel)
def codes1 : List Jvm.Cond := [Jvm.Cond.code x code maxLocals ret, Jvm.Cond.code ({ cls := "com/example/rollhaus/rollhaus/dice/FacesAmongPinLaw", name := "cnt", desc := "(II)I" } : Jvm.MethodName) method_3_code (2 : Nat) (Option.some Jvm.ClassFile.FieldType.int), Jvm.Cond.code ({ cls := "com/example/rollhaus/rollhaus/dice/Faces", name := "among", desc := "([I[I)Z" } : Jvm.MethodName) prog_26_method_4_code (7 : Nat) (Option.some Jvm.ClassFile.FieldType.boolean), Jvm.Cond.code ({ cls := "com/example/rollhaus/rollhaus/dice/FacesAmongPinLaw", name := "fits", desc := "(IIIIII)Z" } : Jvm.MethodName) method_4_code (8 : Nat) (Option.some Jvm.ClassFile.FieldType.boolean)]
set_option maxRecDepth 65536 in
theorem codes_eq : words1.filter isCode = codes1 := rfl
theorem w_codes : ∀ c ∈ words1.filter isCode, c.before args0 about1 = true := by
  rw [codes_eq]
  intro c hc
  simp only [codes1, List.mem_cons, List.not_mem_nil, or_false] at hc
  rcases hc with rfl | rfl | rfl | rfl
  · exact w_c0
  · exact w_c1
  · exact w_c2
  · exact w_c3
set_option maxRecDepth 65536 in
theorem w_t1 : words1.all (fun c => isCode c || c.before args0 about1) = true := by decide +kernel
theorem w_tables : (allAtoms (Jvm.Cond.code x code maxLocals ret :: tables_1)).before args0 about1 = true := by
  rw [allAtoms_all]
  show words1.all (fun c => c.before args0 about1) = true
  refine all_split ?_ w_codes
  rw [w_t1]
set_option maxRecDepth 65536 in
theorem w_case : (Jvm.Cond.and given_1 narrow_1).before args0 about1 = true := by decide +kernel
theorem w_applies : (headSpec (Jvm.Cond.code x code maxLocals ret :: tables_1) room_1).applies x e0.platform about1 = true :=
  (Spec.applies_iff w_frames).mpr ⟨w_running, w_runnable, w_alone, w_named, w_hears, w_ripe, w_room, w_tables⟩
theorem atStart : AtStart classFile x code maxLocals ret World_1 tables_1 room_1 Calls_1 rest_1 Pre_1 launch0 p0 e0 about1 theMethod args0 below0 :=
  ⟨lists_1, trivial, launch0.admits_env _ _ _, launch0.least_env, fairChoices_fair.cas, fairChoices_fair.clock, w_frames, w_args, w_heap, w_applies, trivial, trivial, w_case⟩
end start1
theorem witness_1 : WitnessClaimed_1 := ⟨start1.p0, start1.e0, start1.about1, start1.theMethod, start1.args0, start1.below0, start1.atStart⟩
end Jvm.Pilot.@@N@@
