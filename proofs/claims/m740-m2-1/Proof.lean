import JvmDerived
import JvmDerived.Pilot.@@N@@Statement
import JvmDerived.Pilot.@@N@@Code
set_option linter.unusedVariables false
set_option linter.unusedSimpArgs false
namespace Jvm.Pilot.@@N@@
open Jvm Jvm.ClassFile Sem Op Lib Jvm.Free Jvm.Stand Jvm.LawKit Jvm.RoadKit Bundle Jvm.Pilot.@@N@@.Jvm.D
/-- from the state A the run comes to an end of which R holds -/
def own_Fin (tb : Tables) (e : Env) (below : List Frame) (A : State) (R : State → Outcome → Prop) : Prop := ∃ s₂ o, Steps tb e below A s₂ ∧ R s₂ o
theorem own_in {tb : Tables} {e : Env} {below : List Frame} {A : State} {R : State → Outcome → Prop} (h : own_Fin tb e below A R) : ∃ s₂ o, Steps tb e below A s₂ ∧ R s₂ o := h
theorem own_go {tb : Tables} {e : Env} {below : List Frame} {A B : State} {R : State → Outcome → Prop} (st : ∀ t, Steps tb e below B t → Steps tb e below A t) (h : own_Fin tb e below B R) : own_Fin tb e below A R := by
  obtain ⟨s₂, o, h1, h2⟩ := h
  exact ⟨s₂, o, st _ h1, h2⟩
theorem own_beqT {P : Prop} [Decidable P] (h : ¬ P) : ifCond.holds .eq (if P then (1 : Int32) else 0) = true := by rw [if_neg h]; rfl
theorem own_beqF {P : Prop} [Decidable P] (h : P) : ifCond.holds .eq (if P then (1 : Int32) else 0) = false := by rw [if_pos h]; rfl
theorem own_bneT {P : Prop} [Decidable P] (h : P) : ifCond.holds .ne (if P then (1 : Int32) else 0) = true := by rw [if_pos h]; rfl
theorem own_bneF {P : Prop} [Decidable P] (h : ¬ P) : ifCond.holds .ne (if P then (1 : Int32) else 0) = false := by rw [if_neg h]; rfl
theorem own_bEq {P R : Prop} [Decidable P] [Decidable R] (h : P ↔ R) : (if P then (1 : Int32) else 0) = (if R then (1 : Int32) else 0) := by
  by_cases p : P
  · rw [if_pos p, if_pos (h.mp p)]
  · rw [if_neg p, if_neg fun r => p (h.mpr r)]
theorem own_bNe {P R : Prop} [Decidable P] [Decidable R] (h : ¬ (P ↔ R)) : ¬ (if P then (1 : Int32) else 0) = (if R then (1 : Int32) else 0) := by
  intro q
  apply h
  by_cases p : P <;> by_cases r : R
  · exact ⟨fun _ => r, fun _ => p⟩
  · rw [if_pos p, if_neg r] at q; exact absurd q (by decide)
  · rw [if_neg p, if_pos r] at q; exact absurd q (by decide)
  · exact ⟨fun x => absurd x p, fun x => absurd x r⟩
theorem own_fitB {P : Prop} [Decidable P] : fits .boolean (.int (if P then (1 : Int32) else 0)) = true := by by_cases p : P <;> simp only [p, if_true, if_false] <;> rfl
theorem own_narB {P : Prop} [Decidable P] : narrow .boolean (.int (if P then (1 : Int32) else 0)) = .int (if P then (1 : Int32) else 0) := by by_cases p : P <;> simp only [p, if_true, if_false] <;> rfl
abbrev own_I (n : Nat) : Int32 := Int32.ofNat n
def own_V (n : Nat) : Value := .int (own_I n)
def own_S : List Nat := [0, 100, 0, 0, 0, 50, 0]
def own_T : List Nat := [0, 1000, 200, 300, 400, 500, 600]
def own_val (f c : Nat) : Nat := if 3 ≤ c then own_T.getD f 0 * 2 ^ (c - 3) else c * own_S.getD f 0
def own_counts : List Nat → List Nat → List Nat
  | [], cl => cl
  | d :: ds, cl => own_counts ds (cl.set d (cl.getD d 0 + 1))
def own_z7 : List Nat := [0, 0, 0, 0, 0, 0, 0]
def own_fill (us : List Nat) (k c f : Nat) : List Nat := us.take k ++ List.replicate c f ++ us.drop (k + c)
def own_of (cl : List Nat) : Nat → Nat → Nat → List Nat → Nat → Nat × List Nat × Nat
  | 0, _, P, us, k => (P, us, k)
  | n + 1, f, P, us, k => if 0 < own_val f (cl.getD f 0) then own_of cl n (f + 1) (P + own_val f (cl.getD f 0)) (own_fill us k (cl.getD f 0) f) (k + cl.getD f 0) else own_of cl n (f + 1) P us k
def own_rem (cl : List Nat) : Nat → Nat → Nat
  | 0, _ => 0
  | n + 1, f => cl.getD f 0 + own_rem cl n (f + 1)
theorem own_toI {n : Nat} (h : n < 1000000) : (own_I n).toInt = n := by show (Int32.ofNat n).toInt = n; rw [Int32.toInt_ofNat_of_lt (by omega)]
theorem own_t0 : (0 : Int32).toInt = 0 := by decide
theorem own_ltI {i n : Nat} (h : i < n) (hn : n < 1000000) : own_I i < own_I n := by rw [Int32.lt_iff_toInt_lt, own_toI (by omega), own_toI hn]; omega
theorem own_nlt {i n : Nat} (h : n ≤ i) (hi : i < 1000000) : ¬ (own_I i < own_I n) := by rw [Int32.lt_iff_toInt_lt, own_toI (by omega), own_toI (by omega)]; omega
theorem own_nn {i : Nat} (h : i < 1000000) : ¬ own_I i < 0 := by rw [Int32.lt_iff_toInt_lt, own_toI h, own_t0]; omega
theorem own_inI {i n : Nat} (h : i < n) (hn : n < 1000000) : ¬ own_I i < 0 ∧ own_I i < own_I n := ⟨own_nn (by omega), own_ltI h hn⟩
theorem own_natI {i : Nat} (h : i < 1000000) : (own_I i).toNatClampNeg = i := by
  show (own_I i).toInt.toNat = i
  rw [own_toI h]; omega
theorem own_add (i j : Nat) : own_I i + own_I j = own_I (i + j) := (Int32.ofNat_add i j).symm
theorem own_mul (i j : Nat) : own_I i * own_I j = own_I (i * j) := (Int32.ofNat_mul i j).symm
theorem own_getM (l : List Nat) (x : Nat) : (l.map own_V).getD x (.int (0 : Int32)) = .int (own_I (l.getD x 0)) := by
  rw [List.getD_eq_getElem?_getD, List.getD_eq_getElem?_getD, List.getElem?_map]
  cases l[x]? <;> rfl
theorem own_getI (l : List Nat) {i : Nat} (h : i < 1000000) : (l.map own_V).getD (own_I i).toNatClampNeg (.int (0 : Int32)) = .int (own_I (l.getD i 0)) := by rw [own_natI h, own_getM]
theorem own_getI2 (l : List Nat) {i d : Nat} (h : i < 1000000) (e : l.getD i 0 = d) : (l.map own_V).getD (own_I i).toNatClampNeg (.int (0 : Int32)) = .int (own_I d) := by rw [own_getI l h, e]
theorem own_setA {Z : State} {h : Heap} {a : Addr} {kc : ClassId} {n : Int32} {ls : List Nat} {i x : Nat} (F : Arv Z h a kc .int n ((ls.map own_V).set i (.int (own_I x))) (.int (0 : Int32))) : Arv Z h a kc .int n ((ls.set i x).map own_V) (.int (0 : Int32)) := by rw [List.map_set]; exact F
theorem own_inj {i j : Nat} (hi : i < 1000000) (hj : j < 1000000) (h : own_I i = own_I j) : i = j := by
  have := congrArg Int32.toInt h
  rw [own_toI hi, own_toI hj] at this
  omega
/-- the filled stretch, one place more -/
theorem own_fillS {us : List Nat} {k c f : Nat} (h : k + c < us.length) : (own_fill us k c f).set (k + c) f = own_fill us k (c + 1) f := by
  unfold own_fill
  have e1 : (us.take k ++ List.replicate c f).length = k + c := by simp; omega
  rw [List.set_append_right _ _ (by omega), e1, Nat.sub_self]
  obtain ⟨y, r, e⟩ : ∃ y r, us.drop (k + c) = y :: r := by
    cases e : us.drop (k + c) with
    | nil => have := congrArg List.length e; simp at this; omega
    | cons y r => exact ⟨y, r, rfl⟩
  have e2 : us.drop (k + (c + 1)) = r := by rw [← Nat.add_assoc, ← List.drop_drop, e]; rfl
  rw [e, e2, List.replicate_succ', List.set_cons_zero]
  simp
theorem own_fillL {us : List Nat} {k c f : Nat} (h : k + c ≤ us.length) : (own_fill us k c f).length = us.length := by unfold own_fill; simp; omega
theorem own_fill0 {us : List Nat} {k f : Nat} : own_fill us k 0 f = us := by unfold own_fill; simp
theorem own_takeE (us : List Nat) (k : Nat) : ((List.range k).map fun i => (us.map own_V).getD (0 + i) (.int (0 : Int32))) = ((List.range k).map fun i => us.getD i 0).map own_V := by
  rw [List.map_map]
  refine List.map_congr_left fun i _ => ?_
  rw [Nat.zero_add, own_getM]; rfl
theorem own_takeR (us : List Nat) (k : Nat) (h : k ≤ us.length) : ((List.range k).map fun i => us.getD i 0) = us.take k := by
  apply List.ext_getElem
  · simp; omega
  · intro i h1 h2
    simp at h1 h2
    simp [List.getD_eq_getElem?_getD]
    rw [List.getElem?_eq_getElem (by omega)]; rfl
/-- the counts of seven -/
theorem own_seven {cl : List Nat} (h : cl.length = 7) : ∃ a b c d e f g, cl = [a, b, c, d, e, f, g] := by
  match cl, h with
  | [a, b, c, d, e, f, g], _ => exact ⟨a, b, c, d, e, f, g, rfl⟩
theorem own_remS {cl : List Nat} {d : Nat} (h : cl.length = 7) (h1 : 1 ≤ d) (h6 : d ≤ 6) : own_rem (cl.set d (cl.getD d 0 + 1)) 6 1 = own_rem cl 6 1 + 1 := by
  obtain ⟨x0, x1, x2, x3, x4, x5, x6, rfl⟩ := own_seven h
  rcases (by omega : d = 1 ∨ d = 2 ∨ d = 3 ∨ d = 4 ∨ d = 5 ∨ d = 6) with rfl | rfl | rfl | rfl | rfl | rfl <;> simp [own_rem] <;> omega
theorem own_cl7 : ∀ (ds cl : List Nat), cl.length = 7 → (own_counts ds cl).length = 7
  | [], _, h => h
  | d :: ds, cl, h => own_cl7 ds _ (by rw [List.length_set]; exact h)
theorem own_remC : ∀ (ds cl : List Nat), cl.length = 7 → (∀ d ∈ ds, 1 ≤ d ∧ d ≤ 6) → own_rem (own_counts ds cl) 6 1 = own_rem cl 6 1 + ds.length
  | [], _, _, _ => rfl
  | d :: ds, cl, h, hd => by
    show own_rem (own_counts ds _) 6 1 = _
    rw [own_remC ds _ (by rw [List.length_set]; exact h) (fun x hx => hd x (List.mem_cons_of_mem _ hx)), own_remS h (hd d (List.mem_cons_self ..)).1 (hd d (List.mem_cons_self ..)).2]
    simp only [List.length_cons]; omega
theorem own_c0 : ∀ (ds cl : List Nat), (∀ d ∈ ds, 1 ≤ d ∧ d ≤ 6) → (own_counts ds cl).getD 0 0 = cl.getD 0 0
  | [], _, _ => rfl
  | d :: ds, cl, hd => by
    show (own_counts ds _).getD 0 0 = _
    have := (hd d (List.mem_cons_self ..)).1
    rw [own_c0 ds _ (fun x hx => hd x (List.mem_cons_of_mem _ hx)), List.getD_eq_getElem?_getD, List.getElem?_set_ne (by omega), List.getD_eq_getElem?_getD]
theorem own_cntLe {cl : List Nat} (h : cl.length = 7) {f : Nat} (h1 : 1 ≤ f) (h6 : f ≤ 6) : cl.getD f 0 ≤ own_rem cl 6 1 := by
  obtain ⟨x0, x1, x2, x3, x4, x5, x6, rfl⟩ := own_seven h
  rcases (by omega : f = 1 ∨ f = 2 ∨ f = 3 ∨ f = 4 ∨ f = 5 ∨ f = 6) with rfl | rfl | rfl | rfl | rfl | rfl <;> simp [own_rem] <;> omega
def own_amB : List Nat → List Nat → Bool
  | [], _ => true
  | d :: ds, ls => if d < 1 then false else if 6 < d then false else if ls.getD d 0 = 0 then false else own_amB ds (ls.set d (ls.getD d 0 - 1))
def own_res (cl : List Nat) : Nat × List Nat := ((own_of cl 6 1 0 (List.replicate (own_rem cl 6 1) 0) 0).1, (own_of cl 6 1 0 (List.replicate (own_rem cl 6 1) 0) 0).2.1.take (own_of cl 6 1 0 (List.replicate (own_rem cl 6 1) 0) 0).2.2)
def own_good (cl : List Nat) : Bool := decide ((own_res cl).1 ≤ 100000) && decide ((own_res cl).2.length ≤ 6) && (own_res cl).2.all (fun d => decide (1 ≤ d) && decide (d ≤ 6)) &&
  (decide ((own_res cl).1 = 0) || (!decide ((own_res cl).2.length = 0) && own_amB (own_res cl).2 cl && decide ((own_res (own_counts (own_res cl).2 own_z7)).2.length = (own_res cl).2.length)))
set_option maxRecDepth 100000 in
theorem own_all : ∀ (a : Fin 7) (b : Fin (7 - a.1)) (c : Fin (7 - a.1 - b.1)) (d : Fin (7 - a.1 - b.1 - c.1)) (e : Fin (7 - a.1 - b.1 - c.1 - d.1)), own_good [0, a.1, b.1, c.1, d.1, e.1, 6 - a.1 - b.1 - c.1 - d.1 - e.1] = true := by decide +kernel
theorem own_goodOf {cl : List Nat} (h : cl.length = 7) (h0 : cl.getD 0 0 = 0) (h6 : own_rem cl 6 1 = 6) : own_good cl = true := by
  obtain ⟨x0, x1, x2, x3, x4, x5, x6, rfl⟩ := own_seven h
  have e0 : x0 = 0 := h0
  have e6 : x1 + (x2 + (x3 + (x4 + (x5 + (x6 + 0))))) = 6 := h6
  have q := own_all ⟨x1, by omega⟩ ⟨x2, by show x2 < 7 - x1; omega⟩ ⟨x3, by show x3 < 7 - x1 - x2; omega⟩ ⟨x4, by show x4 < 7 - x1 - x2 - x3; omega⟩ ⟨x5, by show x5 < 7 - x1 - x2 - x3 - x4; omega⟩
  have e7 : 6 - x1 - x2 - x3 - x4 - x5 = x6 := by omega
  simp only [e7] at q
  rw [e0]; exact q
theorem own_os5 {z0 z1 z2 z3 z4 : Value} {sl : Slot} {v : Int32} (h : One sl) : storeLocals #[.val z0, .val z1, .val z2, .val z3, .val z4, sl] 5 (.int v) = some #[.val z0, .val z1, .val z2, .val z3, .val z4, .val (.int v)] := by
  rcases h with rfl | ⟨w, rfl, hw⟩
  · rfl
  · cases w <;> first | rfl | (simp [Value.category] at hw)
theorem own_os6 {z0 z1 z2 z3 z4 z5 : Value} {sl : Slot} {v : Int32} (h : One sl) : storeLocals #[.val z0, .val z1, .val z2, .val z3, .val z4, .val z5, sl] 6 (.int v) = some #[.val z0, .val z1, .val z2, .val z3, .val z4, .val z5, .val (.int v)] := by
  rcases h with rfl | ⟨w, rfl, hw⟩
  · rfl
  · cases w <;> first | rfl | (simp [Value.category] at hw)
theorem own_vA {f c : Nat} (hf : f ≤ 6) (hc : c ≤ 6) (h : own_I c < (3 : Int32)) : own_I c * own_I (own_S.getD f 0) = own_I (own_val f c) :=
  (by decide +kernel : ∀ (f c : Fin 7), own_I c.1 < (3 : Int32) → own_I c.1 * own_I (own_S.getD f.1 0) = own_I (own_val f.1 c.1)) ⟨f, by omega⟩ ⟨c, by omega⟩ h
theorem own_vB {f c : Nat} (hf : f ≤ 6) (hc : c ≤ 6) (h : ¬ own_I c < (3 : Int32)) : own_I (own_T.getD f 0) <<< ((own_I c - (3 : Int32)) &&& 31) = own_I (own_val f c) :=
  (by decide +kernel : ∀ (f c : Fin 7), ¬ own_I c.1 < (3 : Int32) → own_I (own_T.getD f.1 0) <<< ((own_I c.1 - (3 : Int32)) &&& 31) = own_I (own_val f.1 c.1)) ⟨f, by omega⟩ ⟨c, by omega⟩ h
theorem own_pv {f c : Nat} (hf : f ≤ 6) (hc : c ≤ 6) : (0 : Int32) < own_I (own_val f c) ↔ 0 < own_val f c :=
  (by decide +kernel : ∀ (f c : Fin 7), (0 : Int32) < own_I (own_val f.1 c.1) ↔ 0 < own_val f.1 c.1) ⟨f, by omega⟩ ⟨c, by omega⟩
theorem own_ofT {cl us : List Nat} {n f P k : Nat} (h : 0 < own_val f (cl.getD f 0)) : own_of cl (n + 1) f P us k = own_of cl n (f + 1) (P + own_val f (cl.getD f 0)) (own_fill us k (cl.getD f 0) f) (k + cl.getD f 0) := if_pos h
theorem own_ofF {cl us : List Nat} {n f P k : Nat} (h : ¬ 0 < own_val f (cl.getD f 0)) : own_of cl (n + 1) f P us k = own_of cl n (f + 1) P us k := if_neg h
theorem own_amT {d : Nat} {ds ls : List Nat} (h : own_amB (d :: ds) ls = true) : 1 ≤ d ∧ d ≤ 6 ∧ ¬ ls.getD d 0 = 0 ∧ own_amB ds (ls.set d (ls.getD d 0 - 1)) = true := by
  have h' : (if d < 1 then false else if 6 < d then false else if ls.getD d 0 = 0 then false else own_amB ds (ls.set d (ls.getD d 0 - 1))) = true := h
  by_cases a : d < 1
  · rw [if_pos a] at h'; cases h'
  · rw [if_neg a] at h'
    by_cases b : 6 < d
    · rw [if_pos b] at h'; cases h'
    · rw [if_neg b] at h'
      by_cases c : ls.getD d 0 = 0
      · rw [if_pos c] at h'; cases h'
      · rw [if_neg c] at h'
        exact ⟨by omega, by omega, c, h'⟩
theorem own_sub {i : Nat} (h : ¬ i = 0) (hi : i < 1000000) : own_I i - (1 : Int32) = own_I (i - 1) := by
  apply Int32.toInt_inj.mp
  have e := c_isub (own_I i) 1
  have r := rng32 (own_I i - 1)
  have l1 : (1 : Int32).toInt = 1 := by decide
  rw [own_toI hi, l1] at e
  rw [own_toI (by omega)]
  omega
theorem own_zero (n : Nat) : ∀ i, ((List.replicate n 0).map own_V).getD i (.int (0 : Int32)) = ([] : List Value).getD i (.int (0 : Int32)) := fun i => by
  rw [show ((List.replicate n 0).map own_V) = [] ++ List.replicate n (.int (0 : Int32)) from by rw [List.map_replicate]; rfl]
  exact pad_rep [] _ n i
theorem own_cpE {us : List Nat} {k : Nat} (hk : k < 1000000) : ((List.replicate k 0).map own_V).take (0 : Int32).toNatClampNeg ++ (us.take k).map own_V ++ ((List.replicate k 0).map own_V).drop ((0 : Int32).toNatClampNeg + (own_I k).toNatClampNeg) = (us.take k).map own_V := by
  have z : (0 : Int32).toNatClampNeg = 0 := by decide
  rw [z, own_natI hk, List.drop_of_length_le (by simp)]; simp
theorem own_cpU {us : List Nat} {k : Nat} (hk : k < 1000000) (h : k ≤ us.length) : (us.take k).map own_V = (List.range (own_I k).toNatClampNeg).map fun i => (us.map own_V).getD ((0 : Int32).toNatClampNeg + i) (.int (0 : Int32)) := by
  have z : (0 : Int32).toNatClampNeg = 0 := by decide
  rw [z, own_natI hk, own_takeE, own_takeR us k h]
theorem own_remU {cl : List Nat} {n f : Nat} : own_rem cl (n + 1) f = cl.getD f 0 + own_rem cl n (f + 1) := rfl
theorem own_face (x : Int32) : ∃ n : Nat, 1 ≤ n ∧ n ≤ 6 ∧ (x &&& (2147483647 : Int32)) % (6 : Int32) + (1 : Int32) = own_I n := by
  have e := c_mask x 2147483647 31 (by decide) (by decide)
  have l4 : ((2 ^ 31 : Nat) : Int) = 2147483648 := by decide
  rw [l4] at e
  have q := (c_irem (x &&& 2147483647) 6 6 (by decide)).1 (by omega)
  have q1 := Int.emod_nonneg (x &&& 2147483647).toInt (show (6 : Int) ≠ 0 by omega)
  have q2 := Int.emod_lt_of_pos (x &&& 2147483647).toInt (show 0 < (6 : Int) by omega)
  refine ⟨((x &&& 2147483647) % 6).toInt.toNat + 1, by omega, by omega, ?_⟩
  rw [← own_add]
  show _ = _ + (1 : Int32)
  congr 1
  apply Int32.toInt_inj.mp
  show _ = (Int32.ofNat _).toInt
  rw [Int32.toInt_ofNat_of_lt (by omega)]
  omega
theorem own_goodA {cl : List Nat} (h : own_good cl = true) : (own_res cl).1 ≤ 100000 ∧ (own_res cl).2.length ≤ 6 ∧ (∀ d ∈ (own_res cl).2, 1 ≤ d ∧ d ≤ 6) ∧ (¬ (own_res cl).1 = 0 → ¬ (own_res cl).2.length = 0 ∧ own_amB (own_res cl).2 cl = true ∧ (own_res (own_counts (own_res cl).2 own_z7)).2.length = (own_res cl).2.length) := by
  unfold own_good at h
  simp only [Bool.and_eq_true, Bool.or_eq_true, decide_eq_true_eq, List.all_eq_true, Bool.not_eq_true', decide_eq_false_iff_not] at h
  obtain ⟨⟨⟨a, b⟩, c⟩, d⟩ := h
  refine ⟨a, b, c, fun q => ?_⟩
  rcases d with d | d
  · exact absurd d q
  · exact ⟨d.1.1, d.1.2, d.2⟩
theorem own_z0 {n : Nat} (h : n ≤ 100000) : own_I n = (0 : Int32) ↔ n = 0 := ⟨fun q => own_inj (by omega) (by omega) (q.trans (rfl : (0 : Int32) = own_I 0)), fun q => by rw [q]; rfl⟩
theorem own_setLe {ls : List Nat} {d : Nat} (h : ∀ i, ls.getD i 0 ≤ 6) : ∀ i, (ls.set d (ls.getD d 0 - 1)).getD i 0 ≤ 6 := fun i => by
  rw [List.getD_eq_getElem?_getD, List.getElem?_set]
  by_cases q : d = i
  · rw [if_pos q]
    have := h d
    by_cases r : i < ls.length
    · rw [if_pos (by omega)]; simp only [Option.getD_some]; omega
    · rw [if_neg (by omega)]; exact Nat.zero_le _
  · rw [if_neg q, ← List.getD_eq_getElem?_getD]; exact h i
theorem own_clLe {cl : List Nat} (h : cl.length = 7) (h0 : cl.getD 0 0 = 0) (h6 : own_rem cl 6 1 = 6) : ∀ d, cl.getD d 0 ≤ 6 := fun d => by
  by_cases q : d < 7
  · by_cases r : d = 0
    · rw [r, h0]; omega
    · have := own_cntLe h (f := d) (by omega) (by omega); omega
  · rw [List.getD_eq_getElem?_getD, List.getElem?_eq_none (by omega)]; exact Nat.zero_le _
theorem own_eqI {args : Array Value} {s : State} {t : Term} {k : Int32} (h : (Cond.eq t (.int k)).value args s none s [] = some true) : t.eval args s none [] s = some (.int k) := by
  cases e : t.eval args s none [] s with
  | none => simp [Cond.value, e] at h
  | some v => cases v <;> simp_all [Cond.value, Term.eval]
theorem own_ds6 {d0 d1 d2 d3 d4 d5 : Nat} (a0 : 1 ≤ d0 ∧ d0 ≤ 6) (a1 : 1 ≤ d1 ∧ d1 ≤ 6) (a2 : 1 ≤ d2 ∧ d2 ≤ 6) (a3 : 1 ≤ d3 ∧ d3 ≤ 6) (a4 : 1 ≤ d4 ∧ d4 ≤ 6) (a5 : 1 ≤ d5 ∧ d5 ≤ 6) : ∀ d ∈ [d0, d1, d2, d3, d4, d5], 1 ≤ d ∧ d ≤ 6 := by
  intro d hd
  simp only [List.mem_cons, List.not_mem_nil, or_false] at hd
  omega
theorem own_lenS {args : Array Value} {s : State} {t : Term} {z : Int32} {x : Addr} {cl : Cell} (h : (Term.length t).eval args s none [] s = some (.int z)) (ev : t.eval args s none [] s = some (.ref x)) (hc : s.heap[x]? = some cl) : cl.slots.size < 2 ^ 31 ∧ cl.slots.size.toInt32 = z := by
  obtain ⟨a, cell, e1, e2, e3⟩ := Term.length_spec h
  cases ev.symm.trans e1
  have e4 : s.heap[x]? = some cell := by
    simp only [State.arrayAt?, Option.bind_eq_bind, Option.bind_eq_some_iff] at e2
    obtain ⟨c, h1, k, h2, h3⟩ := e2
    split at h3
    · cases h3
    · split at h3
      · cases h3; exact h1
      · cases h3
  cases hc.symm.trans e4
  refine ⟨?_, (Value.int.inj e3).symm⟩
  by_cases q : cl.slots.size < 2 ^ 31
  · exact q
  · simp [Term.eval, ev, e2, q] at h
theorem dck_0 : decode prog_26_method_2_code 0 = .ok (.iload_n 0, 1) := by decide +kernel
theorem dck_1 : decode prog_26_method_2_code 1 = .ok (.iconst 1, 1) := by decide +kernel
theorem dck_2 : decode prog_26_method_2_code 2 = .ok (.if_icmp .lt 9, 3) := by decide +kernel
theorem dck_5 : decode prog_26_method_2_code 5 = .ok (.iload_n 0, 1) := by decide +kernel
theorem dck_6 : decode prog_26_method_2_code 6 = .ok (.bipush 6, 2) := by decide +kernel
theorem dck_8 : decode prog_26_method_2_code 8 = .ok (.if_icmp .le 17, 3) := by decide +kernel
theorem dck_25 : decode prog_26_method_2_code 25 = .ok (.iload_n 0, 1) := by decide +kernel
theorem dck_26 : decode prog_26_method_2_code 26 = .ok (.ireturn, 1) := by decide +kernel
theorem pnck : plainName "com/example/rollhaus/rollhaus/dice/Faces" = true := by first | (simp [plainName, overriddenIn]; done) | decide +kernel
theorem efck (m : MethodId) (z0 : Int32) : entryFrame m #[(.int z0)] 1 = mkF m 0 #[.val (.int z0)] [] := by first | (simp [entryFrame, mkF, argsToLocals, Value.category]; done) | rfl
def Qck (Z : State) (d : Nat) (h0 : Heap) (n0 : Nat) (v : Option Value) (h : Heap) (L : List Loc) : Prop := v = some (.int (own_I d)) ∧ Fr n0 L ∧ h = h0
set_option maxRecDepth 65536 in
set_option maxHeartbeats 40000000 in
theorem rmck (l : Launch) (Z : State) (a0 : Array Value) (hw : ∀ d ∈ tables_1, d.before a0 Z = true) (ws : List Jvm.Cond) (d : Nat) (h0 : Heap) (n0 : Nat) (Z0 : n0 ≤ h0.size) (h1 : 1 ≤ d) (h6 : d ≤ 6) :
    MetFree l (⟨"com/example/rollhaus/rollhaus/dice/Faces", "checked", "(I)I"⟩ : MethodName) (head1 (Jvm.Cond.code (⟨"com/example/rollhaus/rollhaus/dice/Faces", "checked", "(I)I"⟩ : MethodName) prog_26_method_2_code 1 (some .int) :: ws) ({ frames := 0, cells := 0, slots := 0, locals := 0 } : Room)) (fun a U => a = #[(.int (own_I d))] ∧ Z.Warmed39 U.vm ∧ U.heap = h0) (fun _ _ _ _ _ => True) (fun _ U o U' => ∃ v L, o = .returned v ∧ Qck Z d h0 n0 v U'.heap L ∧ FrameEnd U o U' L ({ frames := 0, cells := 0, slots := 0, locals := 0 } : Room).cells ({ frames := 0, cells := 0, slots := 0, locals := 0 } : Room).slots) := by
  refine MetFree.of_bodySF (plainFor_of_name pnck) hisR ?_
  intro p e s m args below meth c s₁ Bd hml0 hP hK
  obtain ⟨rfl, hZ, hh⟩ := hP
  have hx := Bd.exec
  have hby := Bd.bytes
  have hml : c.maxLocals = 1 := hml0
  have hown : s.vm.findClass "com/example/rollhaus/rollhaus/dice/Faces" = some m.cls := findClass_of_methodNamed Bd.named
  have hnm := (name_of_methodNamed Bd.named Bd.method).1
  have X0 : Stand p l e ({ frames := 0, cells := 0, slots := 0, locals := 0 } : Room) s m #[(.int (own_I d))] below meth c s₁ [] 0 0 := Stand.of_body Bd
  have e0 : s₁.heap = h0 := by rw [← hh, Bd.state]; rfl
  have N0 := Fr.nil n0
  have K0 : Keep h0 h0 [] := Keep.refl h0 _
  refine own_in ?_
  refine own_go (B := s₁.setTop (mkF m 0 #[.val (.int (own_I d))] [])) (fun t k => castTop (efck m (own_I d)) k) ?_
  refine own_go (B := s₁.setTop (mkF m 2 #[.val (.int (own_I d))] [(.int (1 : Int32)), (.int (own_I d))])) (fun t k => ?_) ?_
  · show Steps p.tables e below (s₁.setTop (mkF m 0 #[.val (.int (own_I d))] [])) t
    refine XS.iloadN X0.here hx rfl (hb hby dck_0) rfl ?_
    refine XS.iconst X0.here hx rfl (hb hby dck_1) ?_
    exact k
  have hc1 : ¬ ((own_I d) < (1 : Int32)) := own_nlt (n := 1) h1 (by omega)
  refine own_go (B := s₁.setTop (mkF m 8 #[.val (.int (own_I d))] [(.int (6 : Int32)), (.int (own_I d))])) (fun t k => ?_) ?_
  · show Steps p.tables e below (s₁.setTop (mkF m 2 #[.val (.int (own_I d))] [(.int (1 : Int32)), (.int (own_I d))])) t
    refine XS.icmpNo X0.here hx rfl (hb hby dck_2) rfl (flt hc1).1 ?_
    refine XS.iloadN X0.here hx rfl (hb hby dck_5) rfl ?_
    refine XS.bipush X0.here hx rfl (hb hby dck_6) ?_
    exact k
  have hc2 : ¬ ((6 : Int32) < (own_I d)) := own_nlt (i := 6) h6 (by decide)
  refine own_go (B := s₁.setTop (mkF m 26 #[.val (.int (own_I d))] [(.int (own_I d))])) (fun t k => ?_) ?_
  · show Steps p.tables e below (s₁.setTop (mkF m 8 #[.val (.int (own_I d))] [(.int (6 : Int32)), (.int (own_I d))])) t
    refine XS.icmpYes X0.here hx rfl (pc0 := 8) (pc' := 25) rfl (hb hby dck_8) rfl (flt hc2).2.2.2 (by decide) (by decide) ?_
    refine XS.iloadN X0.here hx rfl (hb hby dck_25) rfl ?_
    exact k
  obtain ⟨fs, hr, hrun, hended, hW, hsame⟩ := X0.leave (v := some (.int (own_I d))) (fun h => by rw [Bd.returns] at h; cases h)
  refine ⟨_, _, ?_, hrun, hended, _, _, rfl, ?_, ⟨_, rfl⟩, hW, hsame.mono (by decide) (by decide)⟩
  · exact retOut X0 hx (t := .int) Bd.returns rfl (Or.inl ⟨rfl, by simp, _, rfl⟩) (hb hby dck_26) hr
  · show Qck Z d h0 n0 _ s₁.heap _
    rw [e0]
    exact ⟨rfl, N0, rfl⟩
theorem dco_0 : decode prog_26_method_3_code 0 = .ok (.bipush 7, 2) := by decide +kernel
theorem dco_2 : decode prog_26_method_3_code 2 = .ok (.newarray .int, 2) := by decide +kernel
theorem dco_4 : decode prog_26_method_3_code 4 = .ok (.astore_n 1, 1) := by decide +kernel
theorem dco_5 : decode prog_26_method_3_code 5 = .ok (.aload_n 0, 1) := by decide +kernel
theorem dco_6 : decode prog_26_method_3_code 6 = .ok (.astore_n 2, 1) := by decide +kernel
theorem dco_7 : decode prog_26_method_3_code 7 = .ok (.aload_n 2, 1) := by decide +kernel
theorem dco_8 : decode prog_26_method_3_code 8 = .ok (.arraylength, 1) := by decide +kernel
theorem dco_9 : decode prog_26_method_3_code 9 = .ok (.istore_n 3, 1) := by decide +kernel
theorem dco_10 : decode prog_26_method_3_code 10 = .ok (.iconst 0, 1) := by decide +kernel
theorem dco_11 : decode prog_26_method_3_code 11 = .ok (.istore 4, 2) := by decide +kernel
theorem dco_13 : decode prog_26_method_3_code 13 = .ok (.iload 4, 2) := by decide +kernel
theorem dco_15 : decode prog_26_method_3_code 15 = .ok (.iload_n 3, 1) := by decide +kernel
theorem dco_16 : decode prog_26_method_3_code 16 = .ok (.if_icmp .ge 26, 3) := by decide +kernel
theorem dco_19 : decode prog_26_method_3_code 19 = .ok (.aload_n 2, 1) := by decide +kernel
theorem dco_20 : decode prog_26_method_3_code 20 = .ok (.iload 4, 2) := by decide +kernel
theorem dco_22 : decode prog_26_method_3_code 22 = .ok (.iaload, 1) := by decide +kernel
theorem dco_23 : decode prog_26_method_3_code 23 = .ok (.istore 5, 2) := by decide +kernel
theorem dco_25 : decode prog_26_method_3_code 25 = .ok (.aload_n 1, 1) := by decide +kernel
theorem dco_26 : decode prog_26_method_3_code 26 = .ok (.iload 5, 2) := by decide +kernel
theorem dco_28 : decode prog_26_method_3_code 28 = .ok (.invokestatic 18, 3) := by decide +kernel
theorem dco_31 : decode prog_26_method_3_code 31 = .ok (.dup2, 1) := by decide +kernel
theorem dco_32 : decode prog_26_method_3_code 32 = .ok (.iaload, 1) := by decide +kernel
theorem dco_33 : decode prog_26_method_3_code 33 = .ok (.iconst 1, 1) := by decide +kernel
theorem dco_34 : decode prog_26_method_3_code 34 = .ok (.iadd, 1) := by decide +kernel
theorem dco_35 : decode prog_26_method_3_code 35 = .ok (.iastore, 1) := by decide +kernel
theorem dco_36 : decode prog_26_method_3_code 36 = .ok (.iinc 4 1, 3) := by decide +kernel
theorem dco_39 : decode prog_26_method_3_code 39 = .ok (.goto (-26), 3) := by decide +kernel
theorem dco_42 : decode prog_26_method_3_code 42 = .ok (.aload_n 1, 1) := by decide +kernel
theorem dco_43 : decode prog_26_method_3_code 43 = .ok (.areturn, 1) := by decide +kernel
theorem pnco : plainName "com/example/rollhaus/rollhaus/dice/Faces" = true := by first | (simp [plainName, overriddenIn]; done) | decide +kernel
theorem pdco_0 : parseMethodDescriptor "(I)I" = some ⟨[.int], some .int⟩ := by decide +kernel
theorem efco (m : MethodId) (z0 : Addr) : entryFrame m #[(.ref z0)] 6 = mkF m 0 #[.val (.ref z0), .unset, .unset, .unset, .unset, .unset] [] := by first | (simp [entryFrame, mkF, argsToLocals, Value.category]; done) | rfl
def Qco (Z : State) (r0 : Addr) (kc : ClassId) (nn : Nat) (ds : List Nat) (h0 : Heap) (n0 : Nat) (v : Option Value) (h : Heap) (L : List Loc) : Prop := ∃ (x : Addr) (kx : ClassId), v = some (.ref x) ∧ Fr n0 L ∧ Keep h0 h [] ∧ h0.size ≤ x ∧ Exa Z h x "[I" ∧ Arv Z h x kx .int (7 : Int32) ((own_counts ds own_z7).map own_V) (.int (0 : Int32))
set_option maxRecDepth 65536 in
set_option maxHeartbeats 40000000 in
theorem rmco (l : Launch) (Z : State) (a0 : Array Value) (hw : ∀ d ∈ tables_1, d.before a0 Z = true) (ws : List Jvm.Cond) (r0 : Addr) (kc : ClassId) (nn : Nat) (ds : List Nat) (h0 : Heap) (n0 : Nat) (Z0 : n0 ≤ h0.size) (V0 : Arv Z h0 r0 kc .int (own_I nn) (ds.map own_V) (.int (0 : Int32))) (hds : ds.length = nn) (hnn : nn ≤ 6) (hd6 : ∀ d ∈ ds, 1 ≤ d ∧ d ≤ 6) :
    MetFree l (⟨"com/example/rollhaus/rollhaus/dice/Faces", "counts", "([I)[I"⟩ : MethodName) (head1 (Jvm.Cond.code (⟨"com/example/rollhaus/rollhaus/dice/Faces", "counts", "([I)[I"⟩ : MethodName) prog_26_method_3_code 6 (some (.array .int)) :: ws) ({ frames := 1, cells := 1, slots := 7, locals := 30 } : Room)) (fun a U => a = #[(.ref r0)] ∧ Z.Warmed39 U.vm ∧ U.heap = h0) (fun _ _ _ _ _ => True) (fun _ U o U' => ∃ v L, o = .returned v ∧ Qco Z r0 kc nn ds h0 n0 v U'.heap L ∧ FrameEnd U o U' L ({ frames := 1, cells := 1, slots := 7, locals := 30 } : Room).cells ({ frames := 1, cells := 1, slots := 7, locals := 30 } : Room).slots) := by
  refine MetFree.of_bodySF (plainFor_of_name pnco) hisR ?_
  intro p e s m args below meth c s₁ Bd hml0 hP hK
  obtain ⟨rfl, hZ, hh⟩ := hP
  have hx := Bd.exec
  have hby := Bd.bytes
  have hml : c.maxLocals = 6 := hml0
  have hown : s.vm.findClass "com/example/rollhaus/rollhaus/dice/Faces" = some m.cls := findClass_of_methodNamed Bd.named
  have hnm := (name_of_methodNamed Bd.named Bd.method).1
  have X0 : Stand p l e ({ frames := 1, cells := 1, slots := 7, locals := 30 } : Room) s m #[(.ref r0)] below meth c s₁ [] 0 0 := Stand.of_body Bd
  have e0 : s₁.heap = h0 := by rw [← hh, Bd.state]; rfl
  have N0 := Fr.nil n0
  have K0 : Keep h0 h0 [] := Keep.refl h0 _
  refine own_in ?_
  refine own_go (B := s₁.setTop (mkF m 0 #[.val (.ref r0), .unset, .unset, .unset, .unset, .unset] [])) (fun t k => castTop (efco m r0) k) ?_
  refine own_go (B := s₁.setTop (mkF m 2 #[.val (.ref r0), .unset, .unset, .unset, .unset, .unset] [(.int (7 : Int32))])) (fun t k => ?_) ?_
  · show Steps p.tables e below (s₁.setTop (mkF m 0 #[.val (.ref r0), .unset, .unset, .unset, .unset, .unset] [])) t
    refine XS.bipush X0.here hx rfl (hb hby dco_0) ?_
    exact k
  obtain ⟨T1, h1, k1, X1, e1, E1, A1, EA1, st1⟩ := newPE X0 hx hZ (hw _ (List.mem_of_getElem? (i := 0) rfl)) e0 (g := (mkF m 2 #[.val (.ref r0), .unset, .unset, .unset, .unset, .unset] [(.int (7 : Int32))])) rfl (hb hby dco_2) rfl (by decide) (cap := 7) (by decide) (by decide) (by decide) (by decide) (ad := "[I") (by decide)
  obtain ⟨b1, g1⟩ : ∃ z, z = h0.size := ⟨_, rfl⟩
  rw [← g1] at A1 EA1 st1
  have g_b1 : n0 ≤ b1 := by rw [g1]; exact Z0
  have sz_b1 : h0.size ≤ b1 := by rw [g1]; exact K0.1
  have ne2 : r0 ≠ b1 := Nat.ne_of_lt (by rw [g1]; exact V0.lt)
  have K1 : Keep h0 h1 [] := K0.ext E1
  have X1 : Stand p l e ({ frames := 1, cells := 1, slots := 7, locals := 30 } : Room) s m #[(.ref r0)] below meth c T1 _ 1 7 := X1
  have V_b1 : Arv Z h1 b1 k1 .int (7 : Int32) [(.int (0 : Int32)), (.int (0 : Int32)), (.int (0 : Int32)), (.int (0 : Int32)), (.int (0 : Int32)), (.int (0 : Int32)), (.int (0 : Int32))] (.int (0 : Int32)) := (Arv.new A1 (by decide)).pad (pad_rep [] (.int (0 : Int32)) 7)
  refine own_go st1 ?_
  show own_Fin p.tables e below (T1.setTop (mkF m 4 #[.val (.ref r0), .unset, .unset, .unset, .unset, .unset] [(.ref b1)])) _
  refine own_go (B := T1.setTop (mkF m 8 #[.val (.ref r0), .val (.ref b1), .val (.ref r0), .unset, .unset, .unset] [(.ref r0)])) (fun t k => ?_) ?_
  · show Steps p.tables e below (T1.setTop (mkF m 4 #[.val (.ref r0), .unset, .unset, .unset, .unset, .unset] [(.ref b1)])) t
    refine XS.astoreN X1.here hx rfl (hb hby dco_4) rfl rfl (l' := #[.val (.ref r0), .val (.ref b1), .unset, .unset, .unset, .unset]) rfl ?_
    refine XS.aloadN X1.here hx rfl (hb hby dco_5) rfl rfl ?_
    refine XS.astoreN X1.here hx rfl (hb hby dco_6) rfl rfl (l' := #[.val (.ref r0), .val (.ref b1), .val (.ref r0), .unset, .unset, .unset]) rfl ?_
    refine XS.aloadN X1.here hx rfl (hb hby dco_7) rfl rfl ?_
    exact k
  have f4 := (V0.ext E1)
  obtain ⟨cl3, Ar3, -, S3, M3, -, -⟩ := id f4
  refine own_go (B := T1.setTop (mkF m 9 #[.val (.ref r0), .val (.ref b1), .val (.ref r0), .unset, .unset, .unset] [(.int (own_I nn))])) (fun t k => ?_) ?_
  · refine X1.arraylength hx (by first | exact Ar3.1 | (rw [e1]; exact Ar3.1)) (State.isArrayOf_alike hZ.alike Ar3.2.1) (g := (mkF m 8 #[.val (.ref r0), .val (.ref b1), .val (.ref r0), .unset, .unset, .unset] [(.ref r0)])) rfl rfl (hb hby dco_8) _ ?_
    rw [len_of S3 M3]
    exact k
  refine own_go (B := T1.setTop (mkF m 13 #[.val (.ref r0), .val (.ref b1), .val (.ref r0), .val (.int (own_I nn)), .val (.int (0 : Int32)), .unset] [])) (fun t k => ?_) ?_
  · show Steps p.tables e below (T1.setTop (mkF m 9 #[.val (.ref r0), .val (.ref b1), .val (.ref r0), .unset, .unset, .unset] [(.int (own_I nn))])) t
    refine XS.istoreN X1.here hx rfl (hb hby dco_9) rfl (l' := #[.val (.ref r0), .val (.ref b1), .val (.ref r0), .val (.int (own_I nn)), .unset, .unset]) rfl ?_
    refine XS.iconst X1.here hx rfl (hb hby dco_10) ?_
    refine XS.istore X1.here hx rfl (hb hby dco_11) rfl (l' := #[.val (.ref r0), .val (.ref b1), .val (.ref r0), .val (.int (own_I nn)), .val (.int (0 : Int32)), .unset]) rfl ?_
    exact k
  have loop : ∀ (es cl : List Nat) (i : Nat) (T : State) (hh : Heap) (locs : List Loc) (sl : Slot) (hs : One sl) (X : Stand p l e ({ frames := 1, cells := 1, slots := 7, locals := 30 } : Room) s m #[(.ref r0)] below meth c T locs 1 7) (eT : T.heap = hh) (N : Fr n0 locs) (K : Keep h0 hh []) (V : Arv Z hh b1 k1 .int (7 : Int32) (cl.map own_V) (.int (0 : Int32))) (Ex : Exa Z hh b1 "[I") (hl : cl.length = 7) (hi : i + es.length = nn) (hd : ∀ j, j < es.length → ds.getD (i + j) 0 = es.getD j 0) (he : ∀ d ∈ es, 1 ≤ d ∧ d ≤ 6) (ha : own_counts es cl = own_counts ds own_z7), own_Fin p.tables e below (T.setTop (mkF m 13 #[.val (.ref r0), .val (.ref b1), .val (.ref r0), .val (.int (own_I nn)), .val (.int (own_I i)), sl] [])) (fun s₂ o => s₂.status = .running ∧ Ended s₂ below o ∧ ∃ v L, o = .returned v ∧ Qco Z r0 kc nn ds h0 n0 v s₂.heap L ∧ FrameEnd s o s₂ L ({ frames := 1, cells := 1, slots := 7, locals := 30 } : Room).cells ({ frames := 1, cells := 1, slots := 7, locals := 30 } : Room).slots) := by
    intro es
    induction es with
    | nil =>
      intro cl i T hh locs sl hs X eT N K V Ex hl hi hd he ha
      simp only [List.length_nil] at hi
      have V0h := V0.keep K nin0
      refine own_go (B := T.setTop (mkF m 16 #[.val (.ref r0), .val (.ref b1), .val (.ref r0), .val (.int (own_I nn)), .val (.int (own_I i)), sl] [(.int (own_I nn)), (.int (own_I i))])) (fun t k => ?_) ?_
      · show Steps p.tables e below (T.setTop (mkF m 13 #[.val (.ref r0), .val (.ref b1), .val (.ref r0), .val (.int (own_I nn)), .val (.int (own_I i)), sl] [])) t
        refine XS.iload X.here hx rfl (hb hby dco_13) rfl ?_
        refine XS.iloadN X.here hx rfl (hb hby dco_15) rfl ?_
        exact k
      have hc5 : ¬ ((own_I i) < (own_I nn)) := own_nlt (by omega) (by omega)
      refine own_go (B := T.setTop (mkF m 43 #[.val (.ref r0), .val (.ref b1), .val (.ref r0), .val (.int (own_I nn)), .val (.int (own_I i)), sl] [(.ref b1)])) (fun t k => ?_) ?_
      · show Steps p.tables e below (T.setTop (mkF m 16 #[.val (.ref r0), .val (.ref b1), .val (.ref r0), .val (.int (own_I nn)), .val (.int (own_I i)), sl] [(.int (own_I nn)), (.int (own_I i))])) t
        refine XS.icmpYes X.here hx rfl (pc0 := 16) (pc' := 42) rfl (hb hby dco_16) rfl (flt hc5).2.1 (by decide) (by decide) ?_
        refine XS.aloadN X.here hx rfl (hb hby dco_42) rfl rfl ?_
        exact k
      obtain ⟨fs, hr, hrun, hended, hW, hsame⟩ := X.leave (v := some (.ref b1)) (fun h => by rw [Bd.returns] at h; cases h)
      refine ⟨_, _, ?_, hrun, hended, _, _, rfl, ?_, ⟨_, rfl⟩, hW, hsame.mono (by decide) (by decide)⟩
      · exact retOut X hx (t := (.array .int)) Bd.returns rfl (Or.inr (Or.inr (Or.inr (Or.inr ⟨rfl, rfl, rfl⟩)))) (hb hby dco_43) hr
      · show Qco Z r0 kc nn ds h0 n0 _ T.heap _
        rw [eT]
        exact ⟨b1, k1, rfl, N, K, sz_b1, Ex, by rw [← ha]; exact V⟩
    | cons d es ih =>
      intro cl i T hh locs sl hs X eT N K V Ex hl hi hd he ha
      have V0h := V0.keep K nin0
      have hdi : ds.getD i 0 = d := hd 0 (by simp)
      have hd16 := he d (List.mem_cons_self ..)
      simp only [List.length_cons] at hi
      refine own_go (B := T.setTop (mkF m 16 #[.val (.ref r0), .val (.ref b1), .val (.ref r0), .val (.int (own_I nn)), .val (.int (own_I i)), sl] [(.int (own_I nn)), (.int (own_I i))])) (fun t k => ?_) ?_
      · show Steps p.tables e below (T.setTop (mkF m 13 #[.val (.ref r0), .val (.ref b1), .val (.ref r0), .val (.int (own_I nn)), .val (.int (own_I i)), sl] [])) t
        refine XS.iload X.here hx rfl (hb hby dco_13) rfl ?_
        refine XS.iloadN X.here hx rfl (hb hby dco_15) rfl ?_
        exact k
      have hc7 : (own_I i) < (own_I nn) := own_ltI (by omega) (by omega)
      refine own_go (B := T.setTop (mkF m 22 #[.val (.ref r0), .val (.ref b1), .val (.ref r0), .val (.int (own_I nn)), .val (.int (own_I i)), sl] [(.int (own_I i)), (.ref r0)])) (fun t k => ?_) ?_
      · show Steps p.tables e below (T.setTop (mkF m 16 #[.val (.ref r0), .val (.ref b1), .val (.ref r0), .val (.int (own_I nn)), .val (.int (own_I i)), sl] [(.int (own_I nn)), (.int (own_I i))])) t
        refine XS.icmpNo X.here hx rfl (hb hby dco_16) rfl (tlt hc7).2.1 ?_
        refine XS.aloadN X.here hx rfl (hb hby dco_19) rfl rfl ?_
        refine XS.iload X.here hx rfl (hb hby dco_20) rfl ?_
        exact k
      obtain ⟨cl8, Ar8, -, S8, M8, Ha8, G8⟩ := id V0h
      have hin8 : ¬ ((own_I i) < 0 ∨ cl8.slots.size ≤ ((own_I i)).toNatClampNeg) := inb_of S8 (own_inI (by omega) (by omega))
      have hat8 : cl8.slots[((own_I i)).toNatClampNeg]? = some (.int (own_I d)) := Has.at Ha8 hin8 (own_getI2 ds (by omega) hdi)
      refine own_go (B := T.setTop (mkF m 23 #[.val (.ref r0), .val (.ref b1), .val (.ref r0), .val (.int (own_I nn)), .val (.int (own_I i)), sl] [(.int (own_I d))])) (fun t k => ?_) ?_
      · exact X.iaload hx (j := (own_I i)) (v := (.int (own_I d))) (by first | exact Ar8.1 | (rw [eT]; exact Ar8.1)) (State.isArrayOf_alike hZ.alike Ar8.2.1) Ar8.2.2 hin8 hat8 (g := (mkF m 22 #[.val (.ref r0), .val (.ref b1), .val (.ref r0), .val (.int (own_I nn)), .val (.int (own_I i)), sl] [(.int (own_I i)), (.ref r0)])) rfl rfl (hb hby dco_22) _ k
      refine own_go (B := T.setTop (mkF m 28 #[.val (.ref r0), .val (.ref b1), .val (.ref r0), .val (.int (own_I nn)), .val (.int (own_I i)), .val (.int (own_I d))] [(.int (own_I d)), (.ref b1)])) (fun t k => ?_) ?_
      · show Steps p.tables e below (T.setTop (mkF m 23 #[.val (.ref r0), .val (.ref b1), .val (.ref r0), .val (.int (own_I nn)), .val (.int (own_I i)), sl] [(.int (own_I d))])) t
        refine XS.istore X.here hx rfl (hb hby dco_23) rfl (l' := #[.val (.ref r0), .val (.ref b1), .val (.ref r0), .val (.int (own_I nn)), .val (.int (own_I i)), .val (.int (own_I d))]) (own_os5 hs) ?_
        refine XS.aloadN X.here hx rfl (hb hby dco_25) rfl rfl ?_
        refine XS.iload X.here hx rfl (hb hby dco_26) rfl ?_
        exact k
      obtain ⟨_, _, ⟨T9, L9, k9, n9⟩, -, X9, ⟨Lc9, hQ9, l9, y9, z9⟩, st9⟩ := Jvm.LawKit.callS X hx (y := (⟨"com/example/rollhaus/rollhaus/dice/Faces", "checked", "(I)I"⟩ : MethodName)) hown (mvT hZ (hw _ (List.mem_of_getElem? (i := 37) rfl))) (mvT hZ (hw _ (List.mem_of_getElem? (i := 38) rfl))) (mvT hZ (hw _ (List.mem_of_getElem? (i := 35) rfl))) (mvT hZ (hw _ (List.mem_of_getElem? (i := 39) rfl))) (by decide) (backOf (W := 1) (rmck l Z a0 hw [] d  hh n0 (Nat.le_trans Z0 K.1) hd16.1 hd16.2) hZ (hw _ (List.mem_of_getElem? (i := 39) rfl)) (hw _ (List.mem_of_getElem? (i := 35) rfl)) (by decide) (by decide)) (g := (mkF m 28 #[.val (.ref r0), .val (.ref b1), .val (.ref r0), .val (.int (own_I nn)), .val (.int (own_I i)), .val (.int (own_I d))] [(.int (own_I d)), (.ref b1)])) rfl (by rw [hml]; rfl) (argsL := [(.int (own_I d))]) (rest := [(.ref b1)]) (lenOf pdco_0 rfl) rfl (by show 2 * 0 + _ ≤ _; exact Nat.le_of_eq rfl) (hb hby dco_28) (fun _ _ => ⟨rfl, eT, (by decide : 1 + 0 ≤ _), (by decide : 7 + 0 ≤ _)⟩)
      dsimp only [Pt.U, Pt.locs, Pt.cells, Pt.slots] at X9 l9 y9 z9 st9 hQ9
      subst y9 z9
      have X9 : Stand p l e ({ frames := 1, cells := 1, slots := 7, locals := 30 } : Room) s m #[(.ref r0)] below meth c T9 _ 1 7 := X9
      obtain ⟨rfl, N9q, e9⟩ := hQ9
      have N9 : Fr n0 L9 := by rw [l9]; exact Fr.app N N9q
      refine own_go (st9) ?_
      show own_Fin p.tables e below (T9.setTop (mkF m 31 #[.val (.ref r0), .val (.ref b1), .val (.ref r0), .val (.int (own_I nn)), .val (.int (own_I i)), .val (.int (own_I d))] [(.int (own_I d)), (.ref b1)])) _
      refine own_go (B := T9.setTop (mkF m 32 #[.val (.ref r0), .val (.ref b1), .val (.ref r0), .val (.int (own_I nn)), .val (.int (own_I i)), .val (.int (own_I d))] [(.int (own_I d)), (.ref b1), (.int (own_I d)), (.ref b1)])) (fun t k => ?_) ?_
      · show Steps p.tables e below (T9.setTop (mkF m 31 #[.val (.ref r0), .val (.ref b1), .val (.ref r0), .val (.int (own_I nn)), .val (.int (own_I i)), .val (.int (own_I d))] [(.int (own_I d)), (.ref b1)])) t
        jvm_step X9.here [X9.here.top, hx, (hb hby dco_31), Value.category]
        exact k
      obtain ⟨cl10, Ar10, -, S10, M10, Ha10, G10⟩ := id V
      have hin10 : ¬ ((own_I d) < 0 ∨ cl10.slots.size ≤ ((own_I d)).toNatClampNeg) := inb_of S10 (own_inI (n := 7) (by omega) (by decide))
      have hat10 : cl10.slots[((own_I d)).toNatClampNeg]? = some (.int (own_I (cl.getD d 0))) := Has.at Ha10 hin10 (own_getI cl (by omega))
      refine own_go (B := T9.setTop (mkF m 33 #[.val (.ref r0), .val (.ref b1), .val (.ref r0), .val (.int (own_I nn)), .val (.int (own_I i)), .val (.int (own_I d))] [(.int (own_I (cl.getD d 0))), (.int (own_I d)), (.ref b1)])) (fun t k => ?_) ?_
      · exact X9.iaload hx (j := (own_I d)) (v := (.int (own_I (cl.getD d 0)))) (by first | exact Ar10.1 | (rw [e9]; exact Ar10.1)) (State.isArrayOf_alike hZ.alike Ar10.2.1) Ar10.2.2 hin10 hat10 (g := (mkF m 32 #[.val (.ref r0), .val (.ref b1), .val (.ref r0), .val (.int (own_I nn)), .val (.int (own_I i)), .val (.int (own_I d))] [(.int (own_I d)), (.ref b1), (.int (own_I d)), (.ref b1)])) rfl rfl (hb hby dco_32) _ k
      refine own_go (B := T9.setTop (mkF m 35 #[.val (.ref r0), .val (.ref b1), .val (.ref r0), .val (.int (own_I nn)), .val (.int (own_I i)), .val (.int (own_I d))] [(.int ((own_I (cl.getD d 0)) + (1 : Int32))), (.int (own_I d)), (.ref b1)])) (fun t k => ?_) ?_
      · show Steps p.tables e below (T9.setTop (mkF m 33 #[.val (.ref r0), .val (.ref b1), .val (.ref r0), .val (.int (own_I nn)), .val (.int (own_I i)), .val (.int (own_I d))] [(.int (own_I (cl.getD d 0))), (.int (own_I d)), (.ref b1)])) t
        refine XS.iconst X9.here hx rfl (hb hby dco_33) ?_
        refine XS.iadd X9.here hx rfl (hb hby dco_34) rfl ?_
        exact k
      refine own_go (B := T9.setTop (mkF m 35 #[.val (.ref r0), .val (.ref b1), .val (.ref r0), .val (.int (own_I nn)), .val (.int (own_I i)), .val (.int (own_I d))] [(.int (own_I (cl.getD d 0 + 1))), (.int (own_I d)), (.ref b1)])) (fun t k => (congrArg (fun z => Steps p.tables e below (T9.setTop (mkF m 35 #[.val (.ref r0), .val (.ref b1), .val (.ref r0), .val (.int (own_I nn)), .val (.int (own_I i)), .val (.int (own_I d))] [(.int z), (.int (own_I d)), (.ref b1)])) t) (own_add _ 1)).mpr k) ?_
      obtain ⟨cl11, Ar11, q11, S11, M11, Ha11, G11⟩ := id V
      have hin11 : ¬ ((own_I d) < 0 ∨ cl11.slots.size ≤ ((own_I d)).toNatClampNeg) := inb_of S11 (own_inI (n := 7) (by omega) (by decide))
      obtain ⟨T11, h11, X11, e11, W11, st11⟩ := stI X9 hx hZ e9 Ar11 (j := (own_I d)) hin11 (g := (mkF m 35 #[.val (.ref r0), .val (.ref b1), .val (.ref r0), .val (.int (own_I nn)), .val (.int (own_I i)), .val (.int (own_I d))] [(.int (own_I (cl.getD d 0 + 1))), (.int (own_I d)), (.ref b1)])) rfl rfl (hb hby dco_35)
      have N11 := Fr.snoc X11 N9 g_b1
      have K11 : Keep h0 h11 [] := K.wr W11 (Or.inr sz_b1)
      have V11 : Arv Z h11 b1 k1 .int (7 : Int32) ((cl.set d (cl.getD d 0 + 1)).map own_V) (.int (0 : Int32)) := own_setA (Arv.set Ar11 q11 S11 M11 Ha11 G11 rfl W11 d (own_natI (by omega)) (by rw [List.length_map, hl]; omega))
      refine own_go st11 ?_
      show own_Fin p.tables e below (T11.setTop (mkF m 36 #[.val (.ref r0), .val (.ref b1), .val (.ref r0), .val (.int (own_I nn)), .val (.int (own_I i)), .val (.int (own_I d))] [])) _
      refine own_go (B := T11.setTop (mkF m 13 #[.val (.ref r0), .val (.ref b1), .val (.ref r0), .val (.int (own_I nn)), .val (.int ((own_I i) + (1 : Int32))), .val (.int (own_I d))] [])) (fun t k => ?_) ?_
      · show Steps p.tables e below (T11.setTop (mkF m 36 #[.val (.ref r0), .val (.ref b1), .val (.ref r0), .val (.int (own_I nn)), .val (.int (own_I i)), .val (.int (own_I d))] [])) t
        refine XS.iinc X11.here hx rfl (hb hby dco_36) rfl (l' := #[.val (.ref r0), .val (.ref b1), .val (.ref r0), .val (.int (own_I nn)), .val (.int ((own_I i) + (1 : Int32))), .val (.int (own_I d))]) rfl ?_
        refine XS.goto X11.here hx rfl (pc0 := 39) (pc' := 13) rfl (hb hby dco_39) (by decide) (by decide) ?_
        exact k
      refine own_go (B := T11.setTop (mkF m 13 #[.val (.ref r0), .val (.ref b1), .val (.ref r0), .val (.int (own_I nn)), .val (.int (own_I (i + 1))), .val (.int (own_I d))] [])) (fun t k => (congrArg (fun z => Steps p.tables e below (T11.setTop (mkF m 13 #[.val (.ref r0), .val (.ref b1), .val (.ref r0), .val (.int (own_I nn)), .val (.int z), .val (.int (own_I d))] [])) t) (own_add i 1)).mpr k) ?_
      have f12 := (Ex.wr W11)
      exact ih (cl.set d (cl.getD d 0 + 1)) (i + 1) _ _ _ (.val (.int (own_I d))) (One.val rfl) X11 e11 N11 K11 V11 f12 (by rw [List.length_set]; exact hl) (by omega) (fun j hj => by have := hd (j + 1) (by simp only [List.length_cons]; omega); rw [show i + (j + 1) = i + 1 + j by omega] at this; exact this) (fun z hz => he z (List.mem_cons_of_mem _ hz)) ha
  exact loop ds own_z7 0 _ _ _ _ One.u X1 e1 N0 K1 V_b1 EA1 rfl (by omega) (fun j hj => by rw [Nat.zero_add]) hd6 rfl
theorem dva_0 : decode prog_52_method_3_code 0 = .ok (.iload_n 1, 1) := by decide +kernel
theorem dva_1 : decode prog_52_method_3_code 1 = .ok (.iconst 3, 1) := by decide +kernel
theorem dva_2 : decode prog_52_method_3_code 2 = .ok (.if_icmp .lt 13, 3) := by decide +kernel
theorem dva_5 : decode prog_52_method_3_code 5 = .ok (.getstatic 51, 3) := by decide +kernel
theorem dva_8 : decode prog_52_method_3_code 8 = .ok (.iload_n 0, 1) := by decide +kernel
theorem dva_9 : decode prog_52_method_3_code 9 = .ok (.iaload, 1) := by decide +kernel
theorem dva_10 : decode prog_52_method_3_code 10 = .ok (.iload_n 1, 1) := by decide +kernel
theorem dva_11 : decode prog_52_method_3_code 11 = .ok (.iconst 3, 1) := by decide +kernel
theorem dva_12 : decode prog_52_method_3_code 12 = .ok (.isub, 1) := by decide +kernel
theorem dva_13 : decode prog_52_method_3_code 13 = .ok (.ishl, 1) := by decide +kernel
theorem dva_14 : decode prog_52_method_3_code 14 = .ok (.ireturn, 1) := by decide +kernel
theorem dva_15 : decode prog_52_method_3_code 15 = .ok (.iload_n 1, 1) := by decide +kernel
theorem dva_16 : decode prog_52_method_3_code 16 = .ok (.getstatic 54, 3) := by decide +kernel
theorem dva_19 : decode prog_52_method_3_code 19 = .ok (.iload_n 0, 1) := by decide +kernel
theorem dva_20 : decode prog_52_method_3_code 20 = .ok (.iaload, 1) := by decide +kernel
theorem dva_21 : decode prog_52_method_3_code 21 = .ok (.imul, 1) := by decide +kernel
theorem dva_22 : decode prog_52_method_3_code 22 = .ok (.ireturn, 1) := by decide +kernel
theorem pnva : plainName "com/example/rollhaus/rollhaus/zehntausend/Scoring" = true := by first | (simp [plainName, overriddenIn]; done) | decide +kernel
theorem efva (m : MethodId) (z0 : Int32) (z1 : Int32) : entryFrame m #[(.int z0), (.int z1)] 2 = mkF m 0 #[.val (.int z0), .val (.int z1)] [] := by first | (simp [entryFrame, mkF, argsToLocals, Value.category]; done) | rfl
def Qva (Z : State) (f : Nat) (cc : Nat) (s1 : Addr) (s3 : Addr) (kS : ClassId) (kT : ClassId) (h0 : Heap) (n0 : Nat) (v : Option Value) (h : Heap) (L : List Loc) : Prop := v = some (.int (own_I (own_val f cc))) ∧ Fr n0 L ∧ h = h0
set_option maxRecDepth 65536 in
set_option maxHeartbeats 40000000 in
theorem rmva (l : Launch) (Z : State) (a0 : Array Value) (hw : ∀ d ∈ tables_1, d.before a0 Z = true) (ws : List Jvm.Cond) (f : Nat) (cc : Nat) (s1 : Addr) (s3 : Addr) (kS : ClassId) (kT : ClassId) (h0 : Heap) (n0 : Nat) (Z0 : n0 ≤ h0.size) (O0 : Old Z n0 h0) (Ssg : Sta Z Z.heap "com/example/rollhaus/rollhaus/zehntausend/Scoring" "SINGLE" "[I" (.ref s1)) (Sth : Sta Z Z.heap "com/example/rollhaus/rollhaus/zehntausend/Scoring" "THREE_ALIKE" "[I" (.ref s3)) (Vsg : Arv Z h0 s1 kS .int (7 : Int32) (own_S.map own_V) (.int (0 : Int32))) (Vth : Arv Z h0 s3 kT .int (7 : Int32) (own_T.map own_V) (.int (0 : Int32))) (hf : f ≤ 6) (hc : cc ≤ 6) :
    MetFree l (⟨"com/example/rollhaus/rollhaus/zehntausend/Scoring", "value", "(II)I"⟩ : MethodName) (head1 (Jvm.Cond.code (⟨"com/example/rollhaus/rollhaus/zehntausend/Scoring", "value", "(II)I"⟩ : MethodName) prog_52_method_3_code 2 (some .int) :: ws) ({ frames := 0, cells := 0, slots := 0, locals := 0 } : Room)) (fun a U => a = #[(.int (own_I f)), (.int (own_I cc))] ∧ Z.Warmed39 U.vm ∧ U.heap = h0) (fun _ _ _ _ _ => True) (fun _ U o U' => ∃ v L, o = .returned v ∧ Qva Z f cc s1 s3 kS kT h0 n0 v U'.heap L ∧ FrameEnd U o U' L ({ frames := 0, cells := 0, slots := 0, locals := 0 } : Room).cells ({ frames := 0, cells := 0, slots := 0, locals := 0 } : Room).slots) := by
  refine MetFree.of_bodySF (plainFor_of_name pnva) hisR ?_
  intro p e s m args below meth c s₁ Bd hml0 hP hK
  obtain ⟨rfl, hZ, hh⟩ := hP
  have hx := Bd.exec
  have hby := Bd.bytes
  have hml : c.maxLocals = 2 := hml0
  have hown : s.vm.findClass "com/example/rollhaus/rollhaus/zehntausend/Scoring" = some m.cls := findClass_of_methodNamed Bd.named
  have hnm := (name_of_methodNamed Bd.named Bd.method).1
  have X0 : Stand p l e ({ frames := 0, cells := 0, slots := 0, locals := 0 } : Room) s m #[(.int (own_I f)), (.int (own_I cc))] below meth c s₁ [] 0 0 := Stand.of_body Bd
  have e0 : s₁.heap = h0 := by rw [← hh, Bd.state]; rfl
  have N0 := Fr.nil n0
  have K0 : Keep h0 h0 [] := Keep.refl h0 _
  refine own_in ?_
  refine own_go (B := s₁.setTop (mkF m 0 #[.val (.int (own_I f)), .val (.int (own_I cc))] [])) (fun t k => castTop (efva m (own_I f) (own_I cc)) k) ?_
  refine own_go (B := s₁.setTop (mkF m 2 #[.val (.int (own_I f)), .val (.int (own_I cc))] [(.int (3 : Int32)), (.int (own_I cc))])) (fun t k => ?_) ?_
  · show Steps p.tables e below (s₁.setTop (mkF m 0 #[.val (.int (own_I f)), .val (.int (own_I cc))] [])) t
    refine XS.iloadN X0.here hx rfl (hb hby dva_0) rfl ?_
    refine XS.iconst X0.here hx rfl (hb hby dva_1) ?_
    exact k
  by_cases hc1 : (own_I cc) < (3 : Int32)
  · skip
    refine own_go (B := s₁.setTop (mkF m 16 #[.val (.int (own_I f)), .val (.int (own_I cc))] [(.int (own_I cc))])) (fun t k => ?_) ?_
    · show Steps p.tables e below (s₁.setTop (mkF m 2 #[.val (.int (own_I f)), .val (.int (own_I cc))] [(.int (3 : Int32)), (.int (own_I cc))])) t
      refine XS.icmpYes X0.here hx rfl (pc0 := 2) (pc' := 15) rfl (hb hby dva_2) rfl (tlt hc1).1 (by decide) (by decide) ?_
      refine XS.iloadN X0.here hx rfl (hb hby dva_15) rfl ?_
      exact k
    obtain ⟨T2, X2, e2, st2⟩ := getS2 X0 hx hZ hown (host := "") (Or.inl (hw _ (List.mem_of_getElem? (i := 43) rfl))) Via.refl e0 (Ssg.ext O0.2) (g := (mkF m 16 #[.val (.int (own_I f)), .val (.int (own_I cc))] [(.int (own_I cc))])) rfl (hb hby dva_16)
    refine own_go st2 ?_
    show own_Fin p.tables e below (T2.setTop (mkF m 19 #[.val (.int (own_I f)), .val (.int (own_I cc))] [(.ref s1), (.int (own_I cc))])) _
    refine own_go (B := T2.setTop (mkF m 20 #[.val (.int (own_I f)), .val (.int (own_I cc))] [(.int (own_I f)), (.ref s1), (.int (own_I cc))])) (fun t k => ?_) ?_
    · show Steps p.tables e below (T2.setTop (mkF m 19 #[.val (.int (own_I f)), .val (.int (own_I cc))] [(.ref s1), (.int (own_I cc))])) t
      refine XS.iloadN X2.here hx rfl (hb hby dva_19) rfl ?_
      exact k
    obtain ⟨cl3, Ar3, -, S3, M3, Ha3, G3⟩ := id Vsg
    have hin3 : ¬ ((own_I f) < 0 ∨ cl3.slots.size ≤ ((own_I f)).toNatClampNeg) := inb_of S3 (own_inI (n := 7) (by omega) (by decide))
    have hat3 : cl3.slots[((own_I f)).toNatClampNeg]? = some (.int (own_I (own_S.getD f 0))) := Has.at Ha3 hin3 (own_getI own_S (by omega))
    refine own_go (B := T2.setTop (mkF m 21 #[.val (.int (own_I f)), .val (.int (own_I cc))] [(.int (own_I (own_S.getD f 0))), (.int (own_I cc))])) (fun t k => ?_) ?_
    · exact X2.iaload hx (j := (own_I f)) (v := (.int (own_I (own_S.getD f 0)))) (by first | exact Ar3.1 | (rw [e2]; exact Ar3.1)) (State.isArrayOf_alike hZ.alike Ar3.2.1) Ar3.2.2 hin3 hat3 (g := (mkF m 20 #[.val (.int (own_I f)), .val (.int (own_I cc))] [(.int (own_I f)), (.ref s1), (.int (own_I cc))])) rfl rfl (hb hby dva_20) _ k
    refine own_go (B := T2.setTop (mkF m 22 #[.val (.int (own_I f)), .val (.int (own_I cc))] [(.int ((own_I cc) * (own_I (own_S.getD f 0))))])) (fun t k => ?_) ?_
    · show Steps p.tables e below (T2.setTop (mkF m 21 #[.val (.int (own_I f)), .val (.int (own_I cc))] [(.int (own_I (own_S.getD f 0))), (.int (own_I cc))])) t
      refine XS.imul X2.here hx rfl (hb hby dva_21) rfl ?_
      exact k
    obtain ⟨fs, hr, hrun, hended, hW, hsame⟩ := X2.leave (v := some (.int ((own_I cc) * (own_I (own_S.getD f 0))))) (fun h => by rw [Bd.returns] at h; cases h)
    refine ⟨_, _, ?_, hrun, hended, _, _, rfl, ?_, ⟨_, rfl⟩, hW, hsame.mono (by decide) (by decide)⟩
    · exact retOut X2 hx (t := .int) Bd.returns rfl (Or.inl ⟨rfl, by simp, _, rfl⟩) (hb hby dva_22) hr
    · show Qva Z f cc s1 s3 kS kT h0 n0 _ T2.heap _
      rw [e2]
      exact ⟨congrArg (fun z => some (Value.int z)) (own_vA hf hc hc1), N0, rfl⟩
  · skip
    refine own_go (B := s₁.setTop (mkF m 5 #[.val (.int (own_I f)), .val (.int (own_I cc))] [])) (fun t k => ?_) ?_
    · show Steps p.tables e below (s₁.setTop (mkF m 2 #[.val (.int (own_I f)), .val (.int (own_I cc))] [(.int (3 : Int32)), (.int (own_I cc))])) t
      refine XS.icmpNo X0.here hx rfl (hb hby dva_2) rfl (flt hc1).1 ?_
      exact k
    obtain ⟨T5, X5, e5, st5⟩ := getS2 X0 hx hZ hown (host := "") (Or.inl (hw _ (List.mem_of_getElem? (i := 114) rfl))) Via.refl e0 (Sth.ext O0.2) (g := (mkF m 5 #[.val (.int (own_I f)), .val (.int (own_I cc))] [])) rfl (hb hby dva_5)
    refine own_go st5 ?_
    show own_Fin p.tables e below (T5.setTop (mkF m 8 #[.val (.int (own_I f)), .val (.int (own_I cc))] [(.ref s3)])) _
    refine own_go (B := T5.setTop (mkF m 9 #[.val (.int (own_I f)), .val (.int (own_I cc))] [(.int (own_I f)), (.ref s3)])) (fun t k => ?_) ?_
    · show Steps p.tables e below (T5.setTop (mkF m 8 #[.val (.int (own_I f)), .val (.int (own_I cc))] [(.ref s3)])) t
      refine XS.iloadN X5.here hx rfl (hb hby dva_8) rfl ?_
      exact k
    obtain ⟨cl6, Ar6, -, S6, M6, Ha6, G6⟩ := id Vth
    have hin6 : ¬ ((own_I f) < 0 ∨ cl6.slots.size ≤ ((own_I f)).toNatClampNeg) := inb_of S6 (own_inI (n := 7) (by omega) (by decide))
    have hat6 : cl6.slots[((own_I f)).toNatClampNeg]? = some (.int (own_I (own_T.getD f 0))) := Has.at Ha6 hin6 (own_getI own_T (by omega))
    refine own_go (B := T5.setTop (mkF m 10 #[.val (.int (own_I f)), .val (.int (own_I cc))] [(.int (own_I (own_T.getD f 0)))])) (fun t k => ?_) ?_
    · exact X5.iaload hx (j := (own_I f)) (v := (.int (own_I (own_T.getD f 0)))) (by first | exact Ar6.1 | (rw [e5]; exact Ar6.1)) (State.isArrayOf_alike hZ.alike Ar6.2.1) Ar6.2.2 hin6 hat6 (g := (mkF m 9 #[.val (.int (own_I f)), .val (.int (own_I cc))] [(.int (own_I f)), (.ref s3)])) rfl rfl (hb hby dva_9) _ k
    refine own_go (B := T5.setTop (mkF m 14 #[.val (.int (own_I f)), .val (.int (own_I cc))] [(.int ((own_I (own_T.getD f 0)) <<< (((own_I cc) - (3 : Int32)) &&& 31)))])) (fun t k => ?_) ?_
    · show Steps p.tables e below (T5.setTop (mkF m 10 #[.val (.int (own_I f)), .val (.int (own_I cc))] [(.int (own_I (own_T.getD f 0)))])) t
      refine XS.iloadN X5.here hx rfl (hb hby dva_10) rfl ?_
      refine XS.iconst X5.here hx rfl (hb hby dva_11) ?_
      refine XS.isub X5.here hx rfl (hb hby dva_12) rfl ?_
      refine XS.ishl X5.here hx rfl (hb hby dva_13) rfl ?_
      exact k
    obtain ⟨fs, hr, hrun, hended, hW, hsame⟩ := X5.leave (v := some (.int ((own_I (own_T.getD f 0)) <<< (((own_I cc) - (3 : Int32)) &&& 31)))) (fun h => by rw [Bd.returns] at h; cases h)
    refine ⟨_, _, ?_, hrun, hended, _, _, rfl, ?_, ⟨_, rfl⟩, hW, hsame.mono (by decide) (by decide)⟩
    · exact retOut X5 hx (t := .int) Bd.returns rfl (Or.inl ⟨rfl, by simp, _, rfl⟩) (hb hby dva_14) hr
    · show Qva Z f cc s1 s3 kS kT h0 n0 _ T5.heap _
      rw [e5]
      exact ⟨congrArg (fun z => some (Value.int z)) (own_vB hf hc hc1), N0, rfl⟩
theorem drc_0 : decode jdk_65_method_30_code 0 = .ok (.iload_n 1, 1) := by decide +kernel
theorem drc_1 : decode jdk_65_method_30_code 1 = .ok (.iload_n 2, 1) := by decide +kernel
theorem drc_2 : decode jdk_65_method_30_code 2 = .ok (.if_icmp .le 44, 3) := by decide +kernel
theorem drc_46 : decode jdk_65_method_30_code 46 = .ok (.iload_n 1, 1) := by decide +kernel
theorem drc_47 : decode jdk_65_method_30_code 47 = .ok (.ifCond .ge 12, 3) := by decide +kernel
theorem drc_59 : decode jdk_65_method_30_code 59 = .ok (.iload_n 2, 1) := by decide +kernel
theorem drc_60 : decode jdk_65_method_30_code 60 = .ok (.iload_n 0, 1) := by decide +kernel
theorem drc_61 : decode jdk_65_method_30_code 61 = .ok (.if_icmp .le 12, 3) := by decide +kernel
theorem drc_73 : decode jdk_65_method_30_code 73 = .ok (.return_, 1) := by decide +kernel
theorem pnrc : plainName "java/util/Arrays" = true := by first | (simp [plainName, overriddenIn]; done) | decide +kernel
theorem efrc (m : MethodId) (z0 : Int32) (z1 : Int32) (z2 : Int32) : entryFrame m #[(.int z0), (.int z1), (.int z2)] 3 = mkF m 0 #[.val (.int z0), .val (.int z1), .val (.int z2)] [] := by first | (simp [entryFrame, mkF, argsToLocals, Value.category]; done) | rfl
def Qrc (Z : State) (nn : Nat) (na : Nat) (nb : Nat) (h0 : Heap) (n0 : Nat) (v : Option Value) (h : Heap) (L : List Loc) : Prop := v = none ∧ Fr n0 L ∧ h = h0
set_option maxRecDepth 65536 in
set_option maxHeartbeats 40000000 in
theorem rmrc (l : Launch) (Z : State) (a0 : Array Value) (hw : ∀ d ∈ tables_1, d.before a0 Z = true) (ws : List Jvm.Cond) (nn : Nat) (na : Nat) (nb : Nat) (h0 : Heap) (n0 : Nat) (Z0 : n0 ≤ h0.size) (hab : na ≤ nb) (hbn : nb ≤ nn) (hn : nn ≤ 6) :
    MetFree l (⟨"java/util/Arrays", "rangeCheck", "(III)V"⟩ : MethodName) (head1 (Jvm.Cond.code (⟨"java/util/Arrays", "rangeCheck", "(III)V"⟩ : MethodName) jdk_65_method_30_code 3 none :: ws) ({ frames := 0, cells := 0, slots := 0, locals := 0 } : Room)) (fun a U => a = #[(.int (own_I nn)), (.int (own_I na)), (.int (own_I nb))] ∧ Z.Warmed39 U.vm ∧ U.heap = h0) (fun _ _ _ _ _ => True) (fun _ U o U' => ∃ v L, o = .returned v ∧ Qrc Z nn na nb h0 n0 v U'.heap L ∧ FrameEnd U o U' L ({ frames := 0, cells := 0, slots := 0, locals := 0 } : Room).cells ({ frames := 0, cells := 0, slots := 0, locals := 0 } : Room).slots) := by
  refine MetFree.of_bodySF (plainFor_of_name pnrc) hisR ?_
  intro p e s m args below meth c s₁ Bd hml0 hP hK
  obtain ⟨rfl, hZ, hh⟩ := hP
  have hx := Bd.exec
  have hby := Bd.bytes
  have hml : c.maxLocals = 3 := hml0
  have hown : s.vm.findClass "java/util/Arrays" = some m.cls := findClass_of_methodNamed Bd.named
  have hnm := (name_of_methodNamed Bd.named Bd.method).1
  have X0 : Stand p l e ({ frames := 0, cells := 0, slots := 0, locals := 0 } : Room) s m #[(.int (own_I nn)), (.int (own_I na)), (.int (own_I nb))] below meth c s₁ [] 0 0 := Stand.of_body Bd
  have e0 : s₁.heap = h0 := by rw [← hh, Bd.state]; rfl
  have N0 := Fr.nil n0
  have K0 : Keep h0 h0 [] := Keep.refl h0 _
  refine own_in ?_
  refine own_go (B := s₁.setTop (mkF m 0 #[.val (.int (own_I nn)), .val (.int (own_I na)), .val (.int (own_I nb))] [])) (fun t k => castTop (efrc m (own_I nn) (own_I na) (own_I nb)) k) ?_
  refine own_go (B := s₁.setTop (mkF m 2 #[.val (.int (own_I nn)), .val (.int (own_I na)), .val (.int (own_I nb))] [(.int (own_I nb)), (.int (own_I na))])) (fun t k => ?_) ?_
  · show Steps p.tables e below (s₁.setTop (mkF m 0 #[.val (.int (own_I nn)), .val (.int (own_I na)), .val (.int (own_I nb))] [])) t
    refine XS.iloadN X0.here hx rfl (hb hby drc_0) rfl ?_
    refine XS.iloadN X0.here hx rfl (hb hby drc_1) rfl ?_
    exact k
  have hc1 : ¬ ((own_I nb) < (own_I na)) := own_nlt hab (by omega)
  refine own_go (B := s₁.setTop (mkF m 47 #[.val (.int (own_I nn)), .val (.int (own_I na)), .val (.int (own_I nb))] [(.int (own_I na))])) (fun t k => ?_) ?_
  · show Steps p.tables e below (s₁.setTop (mkF m 2 #[.val (.int (own_I nn)), .val (.int (own_I na)), .val (.int (own_I nb))] [(.int (own_I nb)), (.int (own_I na))])) t
    refine XS.icmpYes X0.here hx rfl (pc0 := 2) (pc' := 46) rfl (hb hby drc_2) rfl (flt hc1).2.2.2 (by decide) (by decide) ?_
    refine XS.iloadN X0.here hx rfl (hb hby drc_46) rfl ?_
    exact k
  have hc2 : ¬ ((own_I na) < (0 : Int32)) := own_nn (by omega)
  refine own_go (B := s₁.setTop (mkF m 61 #[.val (.int (own_I nn)), .val (.int (own_I na)), .val (.int (own_I nb))] [(.int (own_I nn)), (.int (own_I nb))])) (fun t k => ?_) ?_
  · show Steps p.tables e below (s₁.setTop (mkF m 47 #[.val (.int (own_I nn)), .val (.int (own_I na)), .val (.int (own_I nb))] [(.int (own_I na))])) t
    refine XS.ifYes X0.here hx rfl (pc0 := 47) (pc' := 59) rfl (hb hby drc_47) rfl ((if0 _ _).trans (flt hc2).2.1) (by decide) (by decide) ?_
    refine XS.iloadN X0.here hx rfl (hb hby drc_59) rfl ?_
    refine XS.iloadN X0.here hx rfl (hb hby drc_60) rfl ?_
    exact k
  have hc3 : ¬ ((own_I nn) < (own_I nb)) := own_nlt hbn (by omega)
  refine own_go (B := s₁.setTop (mkF m 73 #[.val (.int (own_I nn)), .val (.int (own_I na)), .val (.int (own_I nb))] [])) (fun t k => ?_) ?_
  · show Steps p.tables e below (s₁.setTop (mkF m 61 #[.val (.int (own_I nn)), .val (.int (own_I na)), .val (.int (own_I nb))] [(.int (own_I nn)), (.int (own_I nb))])) t
    refine XS.icmpYes X0.here hx rfl (pc0 := 61) (pc' := 73) rfl (hb hby drc_61) rfl (flt hc3).2.2.2 (by decide) (by decide) ?_
    exact k
  obtain ⟨fs, hr, hrun, hended, hW, hsame⟩ := X0.leave (v := none) (fun _ => rfl)
  refine ⟨_, _, ?_, hrun, hended, _, _, rfl, ?_, ⟨_, rfl⟩, hW, hsame.mono (by decide) (by decide)⟩
  · exact X0.returnOut hx Bd.returns (hb hby drc_73) hr
  · show Qrc Z nn na nb h0 n0 _ s₁.heap _
    rw [e0]
    exact ⟨rfl, N0, rfl⟩
theorem dmn_0 : decode jdk_29_method_69_code 0 = .ok (.iload_n 0, 1) := by decide +kernel
theorem dmn_1 : decode jdk_29_method_69_code 1 = .ok (.iload_n 1, 1) := by decide +kernel
theorem dmn_2 : decode jdk_29_method_69_code 2 = .ok (.if_icmp .gt 7, 3) := by decide +kernel
theorem dmn_9 : decode jdk_29_method_69_code 9 = .ok (.iload_n 1, 1) := by decide +kernel
theorem dmn_10 : decode jdk_29_method_69_code 10 = .ok (.ireturn, 1) := by decide +kernel
theorem efmn (m : MethodId) (z0 : Int32) (z1 : Int32) : entryFrame m #[(.int z0), (.int z1)] 2 = mkF m 0 #[.val (.int z0), .val (.int z1)] [] := by first | (simp [entryFrame, mkF, argsToLocals, Value.category]; done) | rfl
def Qmn (Z : State) (na : Nat) (nb : Nat) (h0 : Heap) (n0 : Nat) (v : Option Value) (h : Heap) (L : List Loc) : Prop := v = some (.int (own_I nb)) ∧ Fr n0 L ∧ h = h0
set_option maxRecDepth 65536 in
set_option maxHeartbeats 40000000 in
theorem rmmn (l : Launch) (Z : State) (a0 : Array Value) (hw : ∀ d ∈ tables_1, d.before a0 Z = true) (ws : List Jvm.Cond) (na : Nat) (nb : Nat) (h0 : Heap) (n0 : Nat) (Z0 : n0 ≤ h0.size) (hab : nb < na) (ha : na ≤ 6) :
    MetFree l (⟨"java/lang/Math", "min", "(II)I"⟩ : MethodName) (head1 (Jvm.Cond.code (⟨"java/lang/Math", "min", "(II)I"⟩ : MethodName) jdk_29_method_69_code 2 (some .int) :: ws) ({ frames := 0, cells := 0, slots := 0, locals := 0 } : Room)) (fun a U => a = #[(.int (own_I na)), (.int (own_I nb))] ∧ Z.Warmed39 U.vm ∧ U.heap = h0) (fun _ _ _ _ _ => True) (fun _ U o U' => ∃ v L, o = .returned v ∧ Qmn Z na nb h0 n0 v U'.heap L ∧ FrameEnd U o U' L ({ frames := 0, cells := 0, slots := 0, locals := 0 } : Room).cells ({ frames := 0, cells := 0, slots := 0, locals := 0 } : Room).slots) := by
  refine MetFree.of_bodySF (Jvm.Free.JP.mathPlain rfl (by decide +kernel)) hisR ?_
  intro p e s m args below meth c s₁ Bd hml0 hP hK
  obtain ⟨rfl, hZ, hh⟩ := hP
  have hx := Bd.exec
  have hby := Bd.bytes
  have hml : c.maxLocals = 2 := hml0
  have hown : s.vm.findClass "java/lang/Math" = some m.cls := findClass_of_methodNamed Bd.named
  have hnm := (name_of_methodNamed Bd.named Bd.method).1
  have X0 : Stand p l e ({ frames := 0, cells := 0, slots := 0, locals := 0 } : Room) s m #[(.int (own_I na)), (.int (own_I nb))] below meth c s₁ [] 0 0 := Stand.of_body Bd
  have e0 : s₁.heap = h0 := by rw [← hh, Bd.state]; rfl
  have N0 := Fr.nil n0
  have K0 : Keep h0 h0 [] := Keep.refl h0 _
  refine own_in ?_
  refine own_go (B := s₁.setTop (mkF m 0 #[.val (.int (own_I na)), .val (.int (own_I nb))] [])) (fun t k => castTop (efmn m (own_I na) (own_I nb)) k) ?_
  refine own_go (B := s₁.setTop (mkF m 2 #[.val (.int (own_I na)), .val (.int (own_I nb))] [(.int (own_I nb)), (.int (own_I na))])) (fun t k => ?_) ?_
  · show Steps p.tables e below (s₁.setTop (mkF m 0 #[.val (.int (own_I na)), .val (.int (own_I nb))] [])) t
    refine XS.iloadN X0.here hx rfl (hb hby dmn_0) rfl ?_
    refine XS.iloadN X0.here hx rfl (hb hby dmn_1) rfl ?_
    exact k
  have hc1 : (own_I nb) < (own_I na) := own_ltI hab (by omega)
  refine own_go (B := s₁.setTop (mkF m 10 #[.val (.int (own_I na)), .val (.int (own_I nb))] [(.int (own_I nb))])) (fun t k => ?_) ?_
  · show Steps p.tables e below (s₁.setTop (mkF m 2 #[.val (.int (own_I na)), .val (.int (own_I nb))] [(.int (own_I nb)), (.int (own_I na))])) t
    refine XS.icmpYes X0.here hx rfl (pc0 := 2) (pc' := 9) rfl (hb hby dmn_2) rfl (tlt hc1).2.2.1 (by decide) (by decide) ?_
    refine XS.iloadN X0.here hx rfl (hb hby dmn_9) rfl ?_
    exact k
  obtain ⟨fs, hr, hrun, hended, hW, hsame⟩ := X0.leave (v := some (.int (own_I nb))) (fun h => by rw [Bd.returns] at h; cases h)
  refine ⟨_, _, ?_, hrun, hended, _, _, rfl, ?_, ⟨_, rfl⟩, hW, hsame.mono (by decide) (by decide)⟩
  · exact retOut X0 hx (t := .int) Bd.returns rfl (Or.inl ⟨rfl, by simp, _, rfl⟩) (hb hby dmn_10) hr
  · show Qmn Z na nb h0 n0 _ s₁.heap _
    rw [e0]
    exact ⟨rfl, N0, rfl⟩
theorem dfi_0 : decode jdk_65_method_104_code 0 = .ok (.aload_n 0, 1) := by decide +kernel
theorem dfi_1 : decode jdk_65_method_104_code 1 = .ok (.arraylength, 1) := by decide +kernel
theorem dfi_2 : decode jdk_65_method_104_code 2 = .ok (.iload_n 1, 1) := by decide +kernel
theorem dfi_3 : decode jdk_65_method_104_code 3 = .ok (.iload_n 2, 1) := by decide +kernel
theorem dfi_4 : decode jdk_65_method_104_code 4 = .ok (.invokestatic 13, 3) := by decide +kernel
theorem dfi_7 : decode jdk_65_method_104_code 7 = .ok (.iload_n 1, 1) := by decide +kernel
theorem dfi_8 : decode jdk_65_method_104_code 8 = .ok (.istore 4, 2) := by decide +kernel
theorem dfi_10 : decode jdk_65_method_104_code 10 = .ok (.iload 4, 2) := by decide +kernel
theorem dfi_12 : decode jdk_65_method_104_code 12 = .ok (.iload_n 2, 1) := by decide +kernel
theorem dfi_13 : decode jdk_65_method_104_code 13 = .ok (.if_icmp .ge 14, 3) := by decide +kernel
theorem dfi_16 : decode jdk_65_method_104_code 16 = .ok (.aload_n 0, 1) := by decide +kernel
theorem dfi_17 : decode jdk_65_method_104_code 17 = .ok (.iload 4, 2) := by decide +kernel
theorem dfi_19 : decode jdk_65_method_104_code 19 = .ok (.iload_n 3, 1) := by decide +kernel
theorem dfi_20 : decode jdk_65_method_104_code 20 = .ok (.iastore, 1) := by decide +kernel
theorem dfi_21 : decode jdk_65_method_104_code 21 = .ok (.iinc 4 1, 3) := by decide +kernel
theorem dfi_24 : decode jdk_65_method_104_code 24 = .ok (.goto (-14), 3) := by decide +kernel
theorem dfi_27 : decode jdk_65_method_104_code 27 = .ok (.return_, 1) := by decide +kernel
theorem pnfi : plainName "java/util/Arrays" = true := by first | (simp [plainName, overriddenIn]; done) | decide +kernel
theorem pdfi_0 : parseMethodDescriptor "(III)V" = some ⟨[.int, .int, .int], none⟩ := by decide +kernel
theorem effi (m : MethodId) (z0 : Addr) (z1 : Int32) (z2 : Int32) (z3 : Int32) : entryFrame m #[(.ref z0), (.int z1), (.int z2), (.int z3)] 5 = mkF m 0 #[.val (.ref z0), .val (.int z1), .val (.int z2), .val (.int z3), .unset] [] := by first | (simp [entryFrame, mkF, argsToLocals, Value.category]; done) | rfl
def Qfi (Z : State) (r0 : Addr) (kk : Nat) (cc : Nat) (f : Nat) (kc : ClassId) (nn : Nat) (us : List Nat) (h0 : Heap) (n0 : Nat) (v : Option Value) (h : Heap) (L : List Loc) : Prop := v = none ∧ Fr n0 L ∧ Keep h0 h [r0] ∧ Arv Z h r0 kc .int (own_I nn) ((own_fill us kk cc f).map own_V) (.int (0 : Int32))
set_option maxRecDepth 65536 in
set_option maxHeartbeats 40000000 in
theorem rmfi (l : Launch) (Z : State) (a0 : Array Value) (hw : ∀ d ∈ tables_1, d.before a0 Z = true) (ws : List Jvm.Cond) (r0 : Addr) (kk : Nat) (cc : Nat) (f : Nat) (kc : ClassId) (nn : Nat) (us : List Nat) (h0 : Heap) (n0 : Nat) (Z0 : n0 ≤ h0.size) (V0 : Arv Z h0 r0 kc .int (own_I nn) (us.map own_V) (.int (0 : Int32))) (g0 : n0 ≤ r0) (hus : us.length = nn) (hkc : kk + cc ≤ nn) (hnn : nn ≤ 6) :
    MetFree l (⟨"java/util/Arrays", "fill", "([IIII)V"⟩ : MethodName) (head1 (Jvm.Cond.code (⟨"java/util/Arrays", "fill", "([IIII)V"⟩ : MethodName) jdk_65_method_104_code 5 none :: ws) ({ frames := 1, cells := 0, slots := 0, locals := 20 } : Room)) (fun a U => a = #[(.ref r0), (.int (own_I kk)), (.int (own_I (kk + cc))), (.int (own_I f))] ∧ Z.Warmed39 U.vm ∧ U.heap = h0) (fun _ _ _ _ _ => True) (fun _ U o U' => ∃ v L, o = .returned v ∧ Qfi Z r0 kk cc f kc nn us h0 n0 v U'.heap L ∧ FrameEnd U o U' L ({ frames := 1, cells := 0, slots := 0, locals := 20 } : Room).cells ({ frames := 1, cells := 0, slots := 0, locals := 20 } : Room).slots) := by
  refine MetFree.of_bodySF (plainFor_of_name pnfi) hisR ?_
  intro p e s m args below meth c s₁ Bd hml0 hP hK
  obtain ⟨rfl, hZ, hh⟩ := hP
  have hx := Bd.exec
  have hby := Bd.bytes
  have hml : c.maxLocals = 5 := hml0
  have hown : s.vm.findClass "java/util/Arrays" = some m.cls := findClass_of_methodNamed Bd.named
  have hnm := (name_of_methodNamed Bd.named Bd.method).1
  have X0 : Stand p l e ({ frames := 1, cells := 0, slots := 0, locals := 20 } : Room) s m #[(.ref r0), (.int (own_I kk)), (.int (own_I (kk + cc))), (.int (own_I f))] below meth c s₁ [] 0 0 := Stand.of_body Bd
  have e0 : s₁.heap = h0 := by rw [← hh, Bd.state]; rfl
  have N0 := Fr.nil n0
  have K0 : Keep h0 h0 [r0] := Keep.refl h0 _
  refine own_in ?_
  refine own_go (B := s₁.setTop (mkF m 0 #[.val (.ref r0), .val (.int (own_I kk)), .val (.int (own_I (kk + cc))), .val (.int (own_I f)), .unset] [])) (fun t k => castTop (effi m r0 (own_I kk) (own_I (kk + cc)) (own_I f)) k) ?_
  refine own_go (B := s₁.setTop (mkF m 1 #[.val (.ref r0), .val (.int (own_I kk)), .val (.int (own_I (kk + cc))), .val (.int (own_I f)), .unset] [(.ref r0)])) (fun t k => ?_) ?_
  · show Steps p.tables e below (s₁.setTop (mkF m 0 #[.val (.ref r0), .val (.int (own_I kk)), .val (.int (own_I (kk + cc))), .val (.int (own_I f)), .unset] [])) t
    refine XS.aloadN X0.here hx rfl (hb hby dfi_0) rfl rfl ?_
    exact k
  obtain ⟨cl1, Ar1, -, S1, M1, -, -⟩ := id V0
  refine own_go (B := s₁.setTop (mkF m 2 #[.val (.ref r0), .val (.int (own_I kk)), .val (.int (own_I (kk + cc))), .val (.int (own_I f)), .unset] [(.int (own_I nn))])) (fun t k => ?_) ?_
  · refine X0.arraylength hx (by first | exact Ar1.1 | (rw [e0]; exact Ar1.1)) (State.isArrayOf_alike hZ.alike Ar1.2.1) (g := (mkF m 1 #[.val (.ref r0), .val (.int (own_I kk)), .val (.int (own_I (kk + cc))), .val (.int (own_I f)), .unset] [(.ref r0)])) rfl rfl (hb hby dfi_1) _ ?_
    rw [len_of S1 M1]
    exact k
  refine own_go (B := s₁.setTop (mkF m 4 #[.val (.ref r0), .val (.int (own_I kk)), .val (.int (own_I (kk + cc))), .val (.int (own_I f)), .unset] [(.int (own_I (kk + cc))), (.int (own_I kk)), (.int (own_I nn))])) (fun t k => ?_) ?_
  · show Steps p.tables e below (s₁.setTop (mkF m 2 #[.val (.ref r0), .val (.int (own_I kk)), .val (.int (own_I (kk + cc))), .val (.int (own_I f)), .unset] [(.int (own_I nn))])) t
    refine XS.iloadN X0.here hx rfl (hb hby dfi_2) rfl ?_
    refine XS.iloadN X0.here hx rfl (hb hby dfi_3) rfl ?_
    exact k
  obtain ⟨_, _, ⟨T2, L2, k2, n2⟩, -, X2, ⟨Lc2, hQ2, l2, y2, z2⟩, st2⟩ := Jvm.LawKit.callS X0 hx (y := (⟨"java/util/Arrays", "rangeCheck", "(III)V"⟩ : MethodName)) hown (mvT hZ (hw _ (List.mem_of_getElem? (i := 49) rfl))) (mvT hZ (hw _ (List.mem_of_getElem? (i := 50) rfl))) (mvT hZ (hw _ (List.mem_of_getElem? (i := 47) rfl))) (mvT hZ (hw _ (List.mem_of_getElem? (i := 51) rfl))) (by decide) (backOf (W := 0) (rmrc l Z a0 hw [] nn kk (kk + cc)  h0 n0 Z0 (by omega) (by omega) hnn) hZ (hw _ (List.mem_of_getElem? (i := 51) rfl)) (hw _ (List.mem_of_getElem? (i := 47) rfl)) (by decide) (by decide)) (g := (mkF m 4 #[.val (.ref r0), .val (.int (own_I kk)), .val (.int (own_I (kk + cc))), .val (.int (own_I f)), .unset] [(.int (own_I (kk + cc))), (.int (own_I kk)), (.int (own_I nn))])) rfl (by rw [hml]; rfl) (argsL := [(.int (own_I nn)), (.int (own_I kk)), (.int (own_I (kk + cc)))]) (rest := []) (lenOf pdfi_0 rfl) rfl (by show 2 * 0 + _ ≤ _; exact Nat.le_of_eq rfl) (hb hby dfi_4) (fun _ _ => ⟨rfl, e0, (by decide : 0 + 0 ≤ _), (by decide : 0 + 0 ≤ _)⟩)
  dsimp only [Pt.U, Pt.locs, Pt.cells, Pt.slots] at X2 l2 y2 z2 st2 hQ2
  subst y2 z2
  have X2 : Stand p l e ({ frames := 1, cells := 0, slots := 0, locals := 20 } : Room) s m #[(.ref r0), (.int (own_I kk)), (.int (own_I (kk + cc))), (.int (own_I f))] below meth c T2 _ 0 0 := X2
  obtain ⟨rfl, N2q, e2⟩ := hQ2
  have N2 : Fr n0 L2 := by rw [l2]; exact Fr.app N0 N2q
  refine own_go (st2) ?_
  show own_Fin p.tables e below (T2.setTop (mkF m 7 #[.val (.ref r0), .val (.int (own_I kk)), .val (.int (own_I (kk + cc))), .val (.int (own_I f)), .unset] [])) _
  refine own_go (B := T2.setTop (mkF m 10 #[.val (.ref r0), .val (.int (own_I kk)), .val (.int (own_I (kk + cc))), .val (.int (own_I f)), .val (.int (own_I kk))] [])) (fun t k => ?_) ?_
  · show Steps p.tables e below (T2.setTop (mkF m 7 #[.val (.ref r0), .val (.int (own_I kk)), .val (.int (own_I (kk + cc))), .val (.int (own_I f)), .unset] [])) t
    refine XS.iloadN X2.here hx rfl (hb hby dfi_7) rfl ?_
    refine XS.istore X2.here hx rfl (hb hby dfi_8) rfl (l' := #[.val (.ref r0), .val (.int (own_I kk)), .val (.int (own_I (kk + cc))), .val (.int (own_I f)), .val (.int (own_I kk))]) rfl ?_
    exact k
  have loop : ∀ (d j : Nat) (T : State) (hh : Heap) (locs : List Loc) (X : Stand p l e ({ frames := 1, cells := 0, slots := 0, locals := 20 } : Room) s m #[(.ref r0), (.int (own_I kk)), (.int (own_I (kk + cc))), (.int (own_I f))] below meth c T locs 0 0) (eT : T.heap = hh) (N : Fr n0 locs) (K : Keep h0 hh [r0]) (V : Arv Z hh r0 kc .int (own_I nn) ((own_fill us kk j f).map own_V) (.int (0 : Int32))) (hd : j + d = cc), own_Fin p.tables e below (T.setTop (mkF m 10 #[.val (.ref r0), .val (.int (own_I kk)), .val (.int (own_I (kk + cc))), .val (.int (own_I f)), .val (.int (own_I (kk + j)))] [])) (fun s₂ o => s₂.status = .running ∧ Ended s₂ below o ∧ ∃ v L, o = .returned v ∧ Qfi Z r0 kk cc f kc nn us h0 n0 v s₂.heap L ∧ FrameEnd s o s₂ L ({ frames := 1, cells := 0, slots := 0, locals := 20 } : Room).cells ({ frames := 1, cells := 0, slots := 0, locals := 20 } : Room).slots) := by
    intro d
    induction d with
    | zero =>
      intro j T hh locs X eT N K V hd
      have ej : j = cc := by omega
      refine own_go (B := T.setTop (mkF m 13 #[.val (.ref r0), .val (.int (own_I kk)), .val (.int (own_I (kk + cc))), .val (.int (own_I f)), .val (.int (own_I (kk + j)))] [(.int (own_I (kk + cc))), (.int (own_I (kk + j)))])) (fun t k => ?_) ?_
      · show Steps p.tables e below (T.setTop (mkF m 10 #[.val (.ref r0), .val (.int (own_I kk)), .val (.int (own_I (kk + cc))), .val (.int (own_I f)), .val (.int (own_I (kk + j)))] [])) t
        refine XS.iload X.here hx rfl (hb hby dfi_10) rfl ?_
        refine XS.iloadN X.here hx rfl (hb hby dfi_12) rfl ?_
        exact k
      have hc3 : ¬ ((own_I (kk + j)) < (own_I (kk + cc))) := own_nlt (by omega) (by omega)
      refine own_go (B := T.setTop (mkF m 27 #[.val (.ref r0), .val (.int (own_I kk)), .val (.int (own_I (kk + cc))), .val (.int (own_I f)), .val (.int (own_I (kk + j)))] [])) (fun t k => ?_) ?_
      · show Steps p.tables e below (T.setTop (mkF m 13 #[.val (.ref r0), .val (.int (own_I kk)), .val (.int (own_I (kk + cc))), .val (.int (own_I f)), .val (.int (own_I (kk + j)))] [(.int (own_I (kk + cc))), (.int (own_I (kk + j)))])) t
        refine XS.icmpYes X.here hx rfl (pc0 := 13) (pc' := 27) rfl (hb hby dfi_13) rfl (flt hc3).2.1 (by decide) (by decide) ?_
        exact k
      obtain ⟨fs, hr, hrun, hended, hW, hsame⟩ := X.leave (v := none) (fun _ => rfl)
      refine ⟨_, _, ?_, hrun, hended, _, _, rfl, ?_, ⟨_, rfl⟩, hW, hsame.mono (by decide) (by decide)⟩
      · exact X.returnOut hx Bd.returns (hb hby dfi_27) hr
      · show Qfi Z r0 kk cc f kc nn us h0 n0 _ T.heap _
        rw [eT]
        exact ⟨rfl, N, K, by rw [← ej]; exact V⟩
    | succ d ih =>
      intro j T hh locs X eT N K V hd
      refine own_go (B := T.setTop (mkF m 13 #[.val (.ref r0), .val (.int (own_I kk)), .val (.int (own_I (kk + cc))), .val (.int (own_I f)), .val (.int (own_I (kk + j)))] [(.int (own_I (kk + cc))), (.int (own_I (kk + j)))])) (fun t k => ?_) ?_
      · show Steps p.tables e below (T.setTop (mkF m 10 #[.val (.ref r0), .val (.int (own_I kk)), .val (.int (own_I (kk + cc))), .val (.int (own_I f)), .val (.int (own_I (kk + j)))] [])) t
        refine XS.iload X.here hx rfl (hb hby dfi_10) rfl ?_
        refine XS.iloadN X.here hx rfl (hb hby dfi_12) rfl ?_
        exact k
      have hc5 : (own_I (kk + j)) < (own_I (kk + cc)) := own_ltI (by omega) (by omega)
      refine own_go (B := T.setTop (mkF m 20 #[.val (.ref r0), .val (.int (own_I kk)), .val (.int (own_I (kk + cc))), .val (.int (own_I f)), .val (.int (own_I (kk + j)))] [(.int (own_I f)), (.int (own_I (kk + j))), (.ref r0)])) (fun t k => ?_) ?_
      · show Steps p.tables e below (T.setTop (mkF m 13 #[.val (.ref r0), .val (.int (own_I kk)), .val (.int (own_I (kk + cc))), .val (.int (own_I f)), .val (.int (own_I (kk + j)))] [(.int (own_I (kk + cc))), (.int (own_I (kk + j)))])) t
        refine XS.icmpNo X.here hx rfl (hb hby dfi_13) rfl (tlt hc5).2.1 ?_
        refine XS.aloadN X.here hx rfl (hb hby dfi_16) rfl rfl ?_
        refine XS.iload X.here hx rfl (hb hby dfi_17) rfl ?_
        refine XS.iloadN X.here hx rfl (hb hby dfi_19) rfl ?_
        exact k
      obtain ⟨cl6, Ar6, q6, S6, M6, Ha6, G6⟩ := id V
      have hin6 : ¬ ((own_I (kk + j)) < 0 ∨ cl6.slots.size ≤ ((own_I (kk + j))).toNatClampNeg) := inb_of S6 (own_inI (by omega) (by omega))
      obtain ⟨T6, h6, X6, e6, W6, st6⟩ := stI X hx hZ eT Ar6 (j := (own_I (kk + j))) hin6 (g := (mkF m 20 #[.val (.ref r0), .val (.int (own_I kk)), .val (.int (own_I (kk + cc))), .val (.int (own_I f)), .val (.int (own_I (kk + j)))] [(.int (own_I f)), (.int (own_I (kk + j))), (.ref r0)])) rfl rfl (hb hby dfi_20)
      have N6 := Fr.snoc X6 N g0
      have K6 : Keep h0 h6 [r0] := K.wr W6 (Or.inl (by simp))
      have V6 : Arv Z h6 r0 kc .int (own_I nn) ((own_fill us kk (j + 1) f).map own_V) (.int (0 : Int32)) := (by have q := own_setA (Arv.set Ar6 q6 S6 M6 Ha6 G6 rfl W6 (kk + j) (own_natI (by omega)) (by rw [List.length_map, own_fillL (by omega)]; omega)); rw [own_fillS (by omega)] at q; exact q)
      refine own_go st6 ?_
      show own_Fin p.tables e below (T6.setTop (mkF m 21 #[.val (.ref r0), .val (.int (own_I kk)), .val (.int (own_I (kk + cc))), .val (.int (own_I f)), .val (.int (own_I (kk + j)))] [])) _
      refine own_go (B := T6.setTop (mkF m 10 #[.val (.ref r0), .val (.int (own_I kk)), .val (.int (own_I (kk + cc))), .val (.int (own_I f)), .val (.int ((own_I (kk + j)) + (1 : Int32)))] [])) (fun t k => ?_) ?_
      · show Steps p.tables e below (T6.setTop (mkF m 21 #[.val (.ref r0), .val (.int (own_I kk)), .val (.int (own_I (kk + cc))), .val (.int (own_I f)), .val (.int (own_I (kk + j)))] [])) t
        refine XS.iinc X6.here hx rfl (hb hby dfi_21) rfl (l' := #[.val (.ref r0), .val (.int (own_I kk)), .val (.int (own_I (kk + cc))), .val (.int (own_I f)), .val (.int ((own_I (kk + j)) + (1 : Int32)))]) rfl ?_
        refine XS.goto X6.here hx rfl (pc0 := 24) (pc' := 10) rfl (hb hby dfi_24) (by decide) (by decide) ?_
        exact k
      refine own_go (B := T6.setTop (mkF m 10 #[.val (.ref r0), .val (.int (own_I kk)), .val (.int (own_I (kk + cc))), .val (.int (own_I f)), .val (.int (own_I (kk + (j + 1))))] [])) (fun t k => (congrArg (fun z => Steps p.tables e below (T6.setTop (mkF m 10 #[.val (.ref r0), .val (.int (own_I kk)), .val (.int (own_I (kk + cc))), .val (.int (own_I f)), .val (.int z)] [])) t) (own_add (kk + j) 1)).mpr k) ?_
      exact ih (j + 1) _ _ _ X6 e6 N6 K6 V6 (by omega)
  exact loop cc 0 _ _ _ X2 e2 N2 K0 (by rw [own_fill0]; exact V0) (by omega)
theorem dcp_0 : decode jdk_65_method_123_code 0 = .ok (.iload_n 1, 1) := by decide +kernel
theorem dcp_1 : decode jdk_65_method_123_code 1 = .ok (.aload_n 0, 1) := by decide +kernel
theorem dcp_2 : decode jdk_65_method_123_code 2 = .ok (.arraylength, 1) := by decide +kernel
theorem dcp_3 : decode jdk_65_method_123_code 3 = .ok (.if_icmp .ne 11, 3) := by decide +kernel
theorem dcp_6 : decode jdk_65_method_123_code 6 = .ok (.aload_n 0, 1) := by decide +kernel
theorem dcp_7 : decode jdk_65_method_123_code 7 = .ok (.invokevirtual 316, 3) := by decide +kernel
theorem dcp_10 : decode jdk_65_method_123_code 10 = .ok (.checkcast 317, 3) := by decide +kernel
theorem dcp_13 : decode jdk_65_method_123_code 13 = .ok (.areturn, 1) := by decide +kernel
theorem dcp_14 : decode jdk_65_method_123_code 14 = .ok (.iload_n 1, 1) := by decide +kernel
theorem dcp_15 : decode jdk_65_method_123_code 15 = .ok (.newarray .int, 2) := by decide +kernel
theorem dcp_17 : decode jdk_65_method_123_code 17 = .ok (.astore_n 2, 1) := by decide +kernel
theorem dcp_18 : decode jdk_65_method_123_code 18 = .ok (.aload_n 0, 1) := by decide +kernel
theorem dcp_19 : decode jdk_65_method_123_code 19 = .ok (.iconst 0, 1) := by decide +kernel
theorem dcp_20 : decode jdk_65_method_123_code 20 = .ok (.aload_n 2, 1) := by decide +kernel
theorem dcp_21 : decode jdk_65_method_123_code 21 = .ok (.iconst 0, 1) := by decide +kernel
theorem dcp_22 : decode jdk_65_method_123_code 22 = .ok (.aload_n 0, 1) := by decide +kernel
theorem dcp_23 : decode jdk_65_method_123_code 23 = .ok (.arraylength, 1) := by decide +kernel
theorem dcp_24 : decode jdk_65_method_123_code 24 = .ok (.iload_n 1, 1) := by decide +kernel
theorem dcp_25 : decode jdk_65_method_123_code 25 = .ok (.invokestatic 304, 3) := by decide +kernel
theorem dcp_28 : decode jdk_65_method_123_code 28 = .ok (.invokestatic 150, 3) := by decide +kernel
theorem dcp_31 : decode jdk_65_method_123_code 31 = .ok (.aload_n 2, 1) := by decide +kernel
theorem dcp_32 : decode jdk_65_method_123_code 32 = .ok (.areturn, 1) := by decide +kernel
theorem pncp : plainName "java/util/Arrays" = true := by first | (simp [plainName, overriddenIn]; done) | decide +kernel
theorem pdcp_0 : parseMethodDescriptor "(II)I" = some ⟨[.int, .int], some .int⟩ := by decide +kernel
theorem efcp (m : MethodId) (z0 : Addr) (z1 : Int32) : entryFrame m #[(.ref z0), (.int z1)] 3 = mkF m 0 #[.val (.ref z0), .val (.int z1), .unset] [] := by first | (simp [entryFrame, mkF, argsToLocals, Value.category]; done) | rfl
def Qcp (Z : State) (r0 : Addr) (kk : Nat) (kc : ClassId) (nn : Nat) (us : List Nat) (h0 : Heap) (n0 : Nat) (v : Option Value) (h : Heap) (L : List Loc) : Prop := ∃ (x : Addr) (kx : ClassId), v = some (.ref x) ∧ Fr n0 L ∧ Keep h0 h [] ∧ h0.size ≤ x ∧ Exa Z h x "[I" ∧ Arv Z h x kx .int (own_I kk) ((us.take kk).map own_V) (.int (0 : Int32))
set_option maxRecDepth 65536 in
set_option maxHeartbeats 40000000 in
theorem rmcp (l : Launch) (Z : State) (a0 : Array Value) (hw : ∀ d ∈ tables_1, d.before a0 Z = true) (ws : List Jvm.Cond) (r0 : Addr) (kk : Nat) (kc : ClassId) (nn : Nat) (us : List Nat) (h0 : Heap) (n0 : Nat) (Z0 : n0 ≤ h0.size) (V0 : Arv Z h0 r0 kc .int (own_I nn) (us.map own_V) (.int (0 : Int32))) (E0 : Exa Z h0 r0 "[I") (hus : us.length = nn) (hk : kk ≤ nn) (hnn : nn ≤ 6) :
    MetFree l (⟨"java/util/Arrays", "copyOf", "([II)[I"⟩ : MethodName) (head1 (Jvm.Cond.code (⟨"java/util/Arrays", "copyOf", "([II)[I"⟩ : MethodName) jdk_65_method_123_code 3 (some (.array .int)) :: ws) ({ frames := 1, cells := 1, slots := 6, locals := 30 } : Room)) (fun a U => a = #[(.ref r0), (.int (own_I kk))] ∧ Z.Warmed39 U.vm ∧ U.heap = h0) (fun _ _ _ _ _ => True) (fun _ U o U' => ∃ v L, o = .returned v ∧ Qcp Z r0 kk kc nn us h0 n0 v U'.heap L ∧ FrameEnd U o U' L ({ frames := 1, cells := 1, slots := 6, locals := 30 } : Room).cells ({ frames := 1, cells := 1, slots := 6, locals := 30 } : Room).slots) := by
  refine MetFree.of_bodySF (plainFor_of_name pncp) hisR ?_
  intro p e s m args below meth c s₁ Bd hml0 hP hK
  obtain ⟨rfl, hZ, hh⟩ := hP
  have hx := Bd.exec
  have hby := Bd.bytes
  have hml : c.maxLocals = 3 := hml0
  have hown : s.vm.findClass "java/util/Arrays" = some m.cls := findClass_of_methodNamed Bd.named
  have hnm := (name_of_methodNamed Bd.named Bd.method).1
  have X0 : Stand p l e ({ frames := 1, cells := 1, slots := 6, locals := 30 } : Room) s m #[(.ref r0), (.int (own_I kk))] below meth c s₁ [] 0 0 := Stand.of_body Bd
  have e0 : s₁.heap = h0 := by rw [← hh, Bd.state]; rfl
  have N0 := Fr.nil n0
  have K0 : Keep h0 h0 [] := Keep.refl h0 _
  refine own_in ?_
  refine own_go (B := s₁.setTop (mkF m 0 #[.val (.ref r0), .val (.int (own_I kk)), .unset] [])) (fun t k => castTop (efcp m r0 (own_I kk)) k) ?_
  refine own_go (B := s₁.setTop (mkF m 2 #[.val (.ref r0), .val (.int (own_I kk)), .unset] [(.ref r0), (.int (own_I kk))])) (fun t k => ?_) ?_
  · show Steps p.tables e below (s₁.setTop (mkF m 0 #[.val (.ref r0), .val (.int (own_I kk)), .unset] [])) t
    refine XS.iloadN X0.here hx rfl (hb hby dcp_0) rfl ?_
    refine XS.aloadN X0.here hx rfl (hb hby dcp_1) rfl rfl ?_
    exact k
  obtain ⟨cl1, Ar1, -, S1, M1, -, -⟩ := id V0
  refine own_go (B := s₁.setTop (mkF m 3 #[.val (.ref r0), .val (.int (own_I kk)), .unset] [(.int (own_I nn)), (.int (own_I kk))])) (fun t k => ?_) ?_
  · refine X0.arraylength hx (by first | exact Ar1.1 | (rw [e0]; exact Ar1.1)) (State.isArrayOf_alike hZ.alike Ar1.2.1) (g := (mkF m 2 #[.val (.ref r0), .val (.int (own_I kk)), .unset] [(.ref r0), (.int (own_I kk))])) rfl rfl (hb hby dcp_2) _ ?_
    rw [len_of S1 M1]
    exact k
  by_cases hc2 : (own_I kk) = (own_I nn)
  · skip
    refine own_go (B := s₁.setTop (mkF m 7 #[.val (.ref r0), .val (.int (own_I kk)), .unset] [(.ref r0)])) (fun t k => ?_) ?_
    · show Steps p.tables e below (s₁.setTop (mkF m 3 #[.val (.ref r0), .val (.int (own_I kk)), .unset] [(.int (own_I nn)), (.int (own_I kk))])) t
      refine XS.icmpNo X0.here hx rfl (hb hby dcp_3) rfl (teq hc2).2 ?_
      refine XS.aloadN X0.here hx rfl (hb hby dcp_6) rfl rfl ?_
      exact k
    obtain ⟨T3, h3, X3, e3, E3, V_b3, EA3, st3⟩ := cloneH X0 hx hZ hown (hw _ (List.mem_of_getElem? (i := 108) rfl)) (hw _ (List.mem_of_getElem? (i := 74) rfl)) (hw _ (List.mem_of_getElem? (i := 78) rfl)) (hw _ (List.mem_of_getElem? (i := 76) rfl)) (hw _ (List.mem_of_getElem? (i := 77) rfl)) (hw _ (List.mem_of_getElem? (i := 79) rfl)) e0 V0.arh E0 (g := (mkF m 7 #[.val (.ref r0), .val (.int (own_I kk)), .unset] [(.ref r0)])) rfl (by rw [hml]; rfl) rfl (hb hby dcp_7) (by decide) (W := 0) (cap := 6) (by show 2 * 0 + _ ≤ _; exact Nat.le_of_eq rfl) (by decide) (by rw [own_natI (by omega)]; omega) (by decide) (by decide)
    obtain ⟨b3, g3⟩ : ∃ z, z = h0.size := ⟨_, rfl⟩
    rw [← g3] at V_b3 EA3 st3
    have g_b3 : n0 ≤ b3 := by rw [g3]; exact Z0
    have sz_b3 : h0.size ≤ b3 := by rw [g3]; exact K0.1
    have ne4 : r0 ≠ b3 := Nat.ne_of_lt (by rw [g3]; exact V0.lt)
    have K3 : Keep h0 h3 [] := K0.ext E3
    have X3 : Stand p l e ({ frames := 1, cells := 1, slots := 6, locals := 30 } : Room) s m #[(.ref r0), (.int (own_I kk))] below meth c T3 _ 1 6 := X3
    have V3 : Arv Z h3 b3 kc .int (own_I nn) (us.map own_V) (.int (0 : Int32)) := V_b3
    refine own_go st3 ?_
    show own_Fin p.tables e below (T3.setTop (mkF m 10 #[.val (.ref r0), .val (.int (own_I kk)), .unset] [(.ref b3)])) _
    obtain ⟨T5, X5, e5, st5⟩ := castY X3 hx hZ hown (hw _ (List.mem_of_getElem? (i := 109) rfl)) e3 (Ins.self EA3) (g := (mkF m 10 #[.val (.ref r0), .val (.int (own_I kk)), .unset] [(.ref b3)])) rfl rfl (hb hby dcp_10)
    refine own_go st5 ?_
    show own_Fin p.tables e below (T5.setTop (mkF m 13 #[.val (.ref r0), .val (.int (own_I kk)), .unset] [(.ref b3)])) _
    obtain ⟨fs, hr, hrun, hended, hW, hsame⟩ := X5.leave (v := some (.ref b3)) (fun h => by rw [Bd.returns] at h; cases h)
    refine ⟨_, _, ?_, hrun, hended, _, _, rfl, ?_, ⟨_, rfl⟩, hW, hsame.mono (by decide) (by decide)⟩
    · exact retOut X5 hx (t := (.array .int)) Bd.returns rfl (Or.inr (Or.inr (Or.inr (Or.inr ⟨rfl, rfl, rfl⟩)))) (hb hby dcp_13) hr
    · show Qcp Z r0 kk kc nn us h0 n0 _ T5.heap _
      rw [e5]
      have ek : kk = nn := own_inj (by omega) (by omega) hc2
      have et : us.take kk = us := List.take_of_length_le (by omega)
      exact ⟨b3, kc, rfl, N0, K3, sz_b3, EA3, by rw [et, ek]; exact V3⟩
  · skip
    refine own_go (B := s₁.setTop (mkF m 14 #[.val (.ref r0), .val (.int (own_I kk)), .unset] [])) (fun t k => ?_) ?_
    · show Steps p.tables e below (s₁.setTop (mkF m 3 #[.val (.ref r0), .val (.int (own_I kk)), .unset] [(.int (own_I nn)), (.int (own_I kk))])) t
      refine XS.icmpYes X0.here hx rfl (pc0 := 3) (pc' := 14) rfl (hb hby dcp_3) rfl (feq hc2).2 (by decide) (by decide) ?_
      exact k
    have hlt : kk < nn := by rcases Nat.lt_or_eq_of_le hk with q | q; exact q; exact absurd (congrArg own_I q) hc2
    refine own_go (B := s₁.setTop (mkF m 15 #[.val (.ref r0), .val (.int (own_I kk)), .unset] [(.int (own_I kk))])) (fun t k => ?_) ?_
    · show Steps p.tables e below (s₁.setTop (mkF m 14 #[.val (.ref r0), .val (.int (own_I kk)), .unset] [])) t
      refine XS.iloadN X0.here hx rfl (hb hby dcp_14) rfl ?_
      exact k
    obtain ⟨T7, h7, k7, X7, e7, E7, A7, EA7, st7⟩ := newPE X0 hx hZ (hw _ (List.mem_of_getElem? (i := 0) rfl)) e0 (g := (mkF m 15 #[.val (.ref r0), .val (.int (own_I kk)), .unset] [(.int (own_I kk))])) rfl (hb hby dcp_15) rfl (own_nn (by omega)) (cap := 6) (by rw [own_natI (by omega)]; omega) (by decide) (by decide) (by decide) (ad := "[I") (by decide)
    obtain ⟨b7, g7⟩ : ∃ z, z = h0.size := ⟨_, rfl⟩
    rw [← g7] at A7 EA7 st7
    have g_b7 : n0 ≤ b7 := by rw [g7]; exact Z0
    have sz_b7 : h0.size ≤ b7 := by rw [g7]; exact K0.1
    have ne8 : r0 ≠ b7 := Nat.ne_of_lt (by rw [g7]; exact V0.lt)
    have K7 : Keep h0 h7 [] := K0.ext E7
    have X7 : Stand p l e ({ frames := 1, cells := 1, slots := 6, locals := 30 } : Room) s m #[(.ref r0), (.int (own_I kk))] below meth c T7 _ 1 6 := X7
    have V_b7 : Arv Z h7 b7 k7 .int (own_I kk) ((List.replicate kk 0).map own_V) (.int (0 : Int32)) := (Arv.new A7 (own_nn (by omega))).pad (own_zero kk)
    refine own_go st7 ?_
    show own_Fin p.tables e below (T7.setTop (mkF m 17 #[.val (.ref r0), .val (.int (own_I kk)), .unset] [(.ref b7)])) _
    refine own_go (B := T7.setTop (mkF m 23 #[.val (.ref r0), .val (.int (own_I kk)), .val (.ref b7)] [(.ref r0), (.int (0 : Int32)), (.ref b7), (.int (0 : Int32)), (.ref r0)])) (fun t k => ?_) ?_
    · show Steps p.tables e below (T7.setTop (mkF m 17 #[.val (.ref r0), .val (.int (own_I kk)), .unset] [(.ref b7)])) t
      refine XS.astoreN X7.here hx rfl (hb hby dcp_17) rfl rfl (l' := #[.val (.ref r0), .val (.int (own_I kk)), .val (.ref b7)]) rfl ?_
      refine XS.aloadN X7.here hx rfl (hb hby dcp_18) rfl rfl ?_
      refine XS.iconst X7.here hx rfl (hb hby dcp_19) ?_
      refine XS.aloadN X7.here hx rfl (hb hby dcp_20) rfl rfl ?_
      show Steps p.tables e below (T7.setTop (mkF m 21 #[.val (.ref r0), .val (.int (own_I kk)), .val (.ref b7)] [(.ref b7), (.int (0 : Int32)), (.ref r0)])) t
      refine XS.iconst X7.here hx rfl (hb hby dcp_21) ?_
      refine XS.aloadN X7.here hx rfl (hb hby dcp_22) rfl rfl ?_
      exact k
    have f10 := (V0.ext E7)
    obtain ⟨cl9, Ar9, -, S9, M9, -, -⟩ := id f10
    refine own_go (B := T7.setTop (mkF m 24 #[.val (.ref r0), .val (.int (own_I kk)), .val (.ref b7)] [(.int (own_I nn)), (.int (0 : Int32)), (.ref b7), (.int (0 : Int32)), (.ref r0)])) (fun t k => ?_) ?_
    · refine X7.arraylength hx (by first | exact Ar9.1 | (rw [e7]; exact Ar9.1)) (State.isArrayOf_alike hZ.alike Ar9.2.1) (g := (mkF m 23 #[.val (.ref r0), .val (.int (own_I kk)), .val (.ref b7)] [(.ref r0), (.int (0 : Int32)), (.ref b7), (.int (0 : Int32)), (.ref r0)])) rfl rfl (hb hby dcp_23) _ ?_
      rw [len_of S9 M9]
      exact k
    refine own_go (B := T7.setTop (mkF m 25 #[.val (.ref r0), .val (.int (own_I kk)), .val (.ref b7)] [(.int (own_I kk)), (.int (own_I nn)), (.int (0 : Int32)), (.ref b7), (.int (0 : Int32)), (.ref r0)])) (fun t k => ?_) ?_
    · show Steps p.tables e below (T7.setTop (mkF m 24 #[.val (.ref r0), .val (.int (own_I kk)), .val (.ref b7)] [(.int (own_I nn)), (.int (0 : Int32)), (.ref b7), (.int (0 : Int32)), (.ref r0)])) t
      refine XS.iloadN X7.here hx rfl (hb hby dcp_24) rfl ?_
      exact k
    obtain ⟨_, _, ⟨T11, L11, k11, n11⟩, -, X11, ⟨Lc11, hQ11, l11, y11, z11⟩, st11⟩ := Jvm.LawKit.callS X7 hx (y := (⟨"java/lang/Math", "min", "(II)I"⟩ : MethodName)) hown (mvT hZ (hw _ (List.mem_of_getElem? (i := 57) rfl))) (mvT hZ (hw _ (List.mem_of_getElem? (i := 58) rfl))) (mvT hZ (hw _ (List.mem_of_getElem? (i := 59) rfl))) (mvT hZ (hw _ (List.mem_of_getElem? (i := 60) rfl))) (by decide) (backOf (W := 4) (rmmn l Z a0 hw [] nn kk  h7 n0 (Nat.le_trans Z0 K7.1) hlt hnn) hZ (hw _ (List.mem_of_getElem? (i := 60) rfl)) (hw _ (List.mem_of_getElem? (i := 59) rfl)) (by decide) (by decide)) (g := (mkF m 25 #[.val (.ref r0), .val (.int (own_I kk)), .val (.ref b7)] [(.int (own_I kk)), (.int (own_I nn)), (.int (0 : Int32)), (.ref b7), (.int (0 : Int32)), (.ref r0)])) rfl (by rw [hml]; rfl) (argsL := [(.int (own_I nn)), (.int (own_I kk))]) (rest := [(.int (0 : Int32)), (.ref b7), (.int (0 : Int32)), (.ref r0)]) (lenOf pdcp_0 rfl) rfl (by show 2 * 0 + _ ≤ _; exact Nat.le_of_eq rfl) (hb hby dcp_25) (fun _ _ => ⟨rfl, e7, (by decide : 1 + 0 ≤ _), (by decide : 6 + 0 ≤ _)⟩)
    dsimp only [Pt.U, Pt.locs, Pt.cells, Pt.slots] at X11 l11 y11 z11 st11 hQ11
    subst y11 z11
    have X11 : Stand p l e ({ frames := 1, cells := 1, slots := 6, locals := 30 } : Room) s m #[(.ref r0), (.int (own_I kk))] below meth c T11 _ 1 6 := X11
    obtain ⟨rfl, N11q, e11⟩ := hQ11
    have N11 : Fr n0 L11 := by rw [l11]; exact Fr.app N0 N11q
    refine own_go (st11) ?_
    show own_Fin p.tables e below (T11.setTop (mkF m 28 #[.val (.ref r0), .val (.int (own_I kk)), .val (.ref b7)] [(.int (own_I kk)), (.int (0 : Int32)), (.ref b7), (.int (0 : Int32)), (.ref r0)])) _
    obtain ⟨T12, h12, L12, X12, e12, N12, Kq12, V12, st12⟩ := cpA X11 hx hZ hown (hw _ (List.mem_of_getElem? (i := 61) rfl)) (hw _ (List.mem_of_getElem? (i := 64) rfl)) (hw _ (List.mem_of_getElem? (i := 62) rfl)) (hw _ (List.mem_of_getElem? (i := 63) rfl)) e11 f10 V_b7 (Or.inl ⟨rfl, rfl⟩) (by decide) (by decide) (own_nn (by omega)) (by rw [own_natI (by omega), own_natI (by omega)]; simp; omega) (by rw [own_natI (by omega)]; simp) (us := ((us.take kk).map own_V)) (own_cpU (by omega) (by omega)) (by rw [own_natI (by omega)]; simp) N11 g_b7 (g := (mkF m 28 #[.val (.ref r0), .val (.int (own_I kk)), .val (.ref b7)] [(.int (own_I kk)), (.int (0 : Int32)), (.ref b7), (.int (0 : Int32)), (.ref r0)])) rfl (by rw [hml]; rfl) rfl (hb hby dcp_28) (by decide) (W := 0) (by show 2 * 0 + _ ≤ _; exact Nat.le_of_eq rfl) (by decide)
    have K12 : Keep h0 h12 [] := K7.trans Kq12 (allS (Or.inr sz_b7) all0)
    have Vc12 : Arv Z h12 b7 k7 .int (own_I kk) ((us.take kk).map own_V) (.int (0 : Int32)) := (by rw [← own_cpE (us := us) (k := kk) (by omega)]; exact V12)
    refine own_go st12 ?_
    show own_Fin p.tables e below (T12.setTop (mkF m 31 #[.val (.ref r0), .val (.int (own_I kk)), .val (.ref b7)] [])) _
    refine own_go (B := T12.setTop (mkF m 32 #[.val (.ref r0), .val (.int (own_I kk)), .val (.ref b7)] [(.ref b7)])) (fun t k => ?_) ?_
    · show Steps p.tables e below (T12.setTop (mkF m 31 #[.val (.ref r0), .val (.int (own_I kk)), .val (.ref b7)] [])) t
      refine XS.aloadN X12.here hx rfl (hb hby dcp_31) rfl rfl ?_
      exact k
    obtain ⟨fs, hr, hrun, hended, hW, hsame⟩ := X12.leave (v := some (.ref b7)) (fun h => by rw [Bd.returns] at h; cases h)
    refine ⟨_, _, ?_, hrun, hended, _, _, rfl, ?_, ⟨_, rfl⟩, hW, hsame.mono (by decide) (by decide)⟩
    · exact retOut X12 hx (t := (.array .int)) Bd.returns rfl (Or.inr (Or.inr (Or.inr (Or.inr ⟨rfl, rfl, rfl⟩)))) (hb hby dcp_32) hr
    · show Qcp Z r0 kk kc nn us h0 n0 _ T12.heap _
      rw [e12]
      have f14 := (EA7.keep Kq12)
      exact ⟨b7, k7, rfl, N12, K12, sz_b7, f14, Vc12⟩
theorem dsi_0 : decode prog_52_method_1_code 0 = .ok (.aload_n 0, 1) := by decide +kernel
theorem dsi_1 : decode prog_52_method_1_code 1 = .ok (.invokespecial 1, 3) := by decide +kernel
theorem dsi_4 : decode prog_52_method_1_code 4 = .ok (.aload_n 0, 1) := by decide +kernel
theorem dsi_5 : decode prog_52_method_1_code 5 = .ok (.iload_n 1, 1) := by decide +kernel
theorem dsi_6 : decode prog_52_method_1_code 6 = .ok (.putfield 7, 3) := by decide +kernel
theorem dsi_9 : decode prog_52_method_1_code 9 = .ok (.aload_n 0, 1) := by decide +kernel
theorem dsi_10 : decode prog_52_method_1_code 10 = .ok (.aload_n 2, 1) := by decide +kernel
theorem dsi_11 : decode prog_52_method_1_code 11 = .ok (.putfield 13, 3) := by decide +kernel
theorem dsi_14 : decode prog_52_method_1_code 14 = .ok (.return_, 1) := by decide +kernel
theorem pnsi : plainName "com/example/rollhaus/rollhaus/zehntausend/Scoring" = true := by first | (simp [plainName, overriddenIn]; done) | decide +kernel
theorem efsi (m : MethodId) (z0 : Addr) (z1 : Int32) (z2 : Addr) : entryFrame m #[(.ref z0), (.int z1), (.ref z2)] 3 = mkF m 0 #[.val (.ref z0), .val (.int z1), .val (.ref z2)] [] := by first | (simp [entryFrame, mkF, argsToLocals, Value.category]; done) | rfl
def Qsi (Z : State) (r0 : Addr) (P : Nat) (tt : Addr) (h0 : Heap) (n0 : Nat) (v : Option Value) (h : Heap) (L : List Loc) : Prop := v = none ∧ Fr n0 L ∧ Keep h0 h [r0] ∧ Exa Z h r0 "com/example/rollhaus/rollhaus/zehntausend/Scoring" ∧ Fld Z h r0 "com/example/rollhaus/rollhaus/zehntausend/Scoring" "points" "I" (.int (own_I P)) ∧ Fld Z h r0 "com/example/rollhaus/rollhaus/zehntausend/Scoring" "dice" "[I" (.ref tt)
set_option maxRecDepth 65536 in
set_option maxHeartbeats 40000000 in
theorem rmsi (l : Launch) (Z : State) (a0 : Array Value) (hw : ∀ d ∈ tables_1, d.before a0 Z = true) (ws : List Jvm.Cond) (r0 : Addr) (P : Nat) (tt : Addr) (h0 : Heap) (n0 : Nat) (Z0 : n0 ≤ h0.size) (E_r0 : Exa Z h0 r0 "com/example/rollhaus/rollhaus/zehntausend/Scoring") (g_r0 : n0 ≤ r0) (F_points_r0 : Fld Z h0 r0 "com/example/rollhaus/rollhaus/zehntausend/Scoring" "points" "I" (.int (0 : Int32))) (F_dice_r0 : Fld Z h0 r0 "com/example/rollhaus/rollhaus/zehntausend/Scoring" "dice" "[I" .null) :
    MetFree l (⟨"com/example/rollhaus/rollhaus/zehntausend/Scoring", "<init>", "(I[I)V"⟩ : MethodName) (head1 (Jvm.Cond.code (⟨"com/example/rollhaus/rollhaus/zehntausend/Scoring", "<init>", "(I[I)V"⟩ : MethodName) prog_52_method_1_code 3 none :: ws) ({ frames := 1, cells := 0, slots := 0, locals := 14 } : Room)) (fun a U => a = #[(.ref r0), (.int (own_I P)), (.ref tt)] ∧ Z.Warmed39 U.vm ∧ U.heap = h0) (fun _ _ _ _ _ => True) (fun _ U o U' => ∃ v L, o = .returned v ∧ Qsi Z r0 P tt h0 n0 v U'.heap L ∧ FrameEnd U o U' L ({ frames := 1, cells := 0, slots := 0, locals := 14 } : Room).cells ({ frames := 1, cells := 0, slots := 0, locals := 14 } : Room).slots) := by
  refine MetFree.of_bodySF (plainFor_of_name pnsi) hisR ?_
  intro p e s m args below meth c s₁ Bd hml0 hP hK
  obtain ⟨rfl, hZ, hh⟩ := hP
  have hx := Bd.exec
  have hby := Bd.bytes
  have hml : c.maxLocals = 3 := hml0
  have hown : s.vm.findClass "com/example/rollhaus/rollhaus/zehntausend/Scoring" = some m.cls := findClass_of_methodNamed Bd.named
  have hnm := (name_of_methodNamed Bd.named Bd.method).1
  have X0 : Stand p l e ({ frames := 1, cells := 0, slots := 0, locals := 14 } : Room) s m #[(.ref r0), (.int (own_I P)), (.ref tt)] below meth c s₁ [] 0 0 := Stand.of_body Bd
  have e0 : s₁.heap = h0 := by rw [← hh, Bd.state]; rfl
  have N0 := Fr.nil n0
  have K0 : Keep h0 h0 [r0] := Keep.refl h0 _
  refine own_in ?_
  refine own_go (B := s₁.setTop (mkF m 0 #[.val (.ref r0), .val (.int (own_I P)), .val (.ref tt)] [])) (fun t k => castTop (efsi m r0 (own_I P) tt) k) ?_
  refine own_go (B := s₁.setTop (mkF m 1 #[.val (.ref r0), .val (.int (own_I P)), .val (.ref tt)] [(.ref r0)])) (fun t k => ?_) ?_
  · show Steps p.tables e below (s₁.setTop (mkF m 0 #[.val (.ref r0), .val (.int (own_I P)), .val (.ref tt)] [])) t
    refine XS.aloadN X0.here hx rfl (hb hby dsi_0) rfl rfl ?_
    exact k
  obtain ⟨T1, X1, e1, st1⟩ := initO X0 hx hZ hown (hw _ (List.mem_of_getElem? (i := 68) rfl)) (hw _ (List.mem_of_getElem? (i := 13) rfl)) (hw _ (List.mem_of_getElem? (i := 14) rfl)) e0 (g := (mkF m 1 #[.val (.ref r0), .val (.int (own_I P)), .val (.ref tt)] [(.ref r0)])) rfl (by rw [hml]; rfl) rfl (hb hby dsi_1) (by decide) (W := 0) (by show 2 * 0 + _ ≤ _; exact Nat.le_of_eq rfl) (by decide)
  refine own_go st1 ?_
  show own_Fin p.tables e below (T1.setTop (mkF m 4 #[.val (.ref r0), .val (.int (own_I P)), .val (.ref tt)] [])) _
  refine own_go (B := T1.setTop (mkF m 6 #[.val (.ref r0), .val (.int (own_I P)), .val (.ref tt)] [(.int (own_I P)), (.ref r0)])) (fun t k => ?_) ?_
  · show Steps p.tables e below (T1.setTop (mkF m 4 #[.val (.ref r0), .val (.int (own_I P)), .val (.ref tt)] [])) t
    refine XS.aloadN X1.here hx rfl (hb hby dsi_4) rfl rfl ?_
    refine XS.iloadN X1.here hx rfl (hb hby dsi_5) rfl ?_
    exact k
  obtain ⟨T2, h2, X2, e2, W2, st2⟩ := putF X1 hx hZ hown (host := "") (Or.inl (hw _ (List.mem_of_getElem? (i := 69) rfl))) Via.refl e1 F_points_r0 E_r0 (Or.inr ⟨(hw _ (List.mem_of_getElem? (i := 70) rfl)), rfl, hnm⟩) (hw _ (List.mem_of_getElem? (i := 53) rfl)) (ty := .int) (by decide) rfl rfl (g := (mkF m 6 #[.val (.ref r0), .val (.int (own_I P)), .val (.ref tt)] [(.int (own_I P)), (.ref r0)])) rfl rfl (hb hby dsi_6)
  have N2 := Fr.snoc X2 N0 g_r0
  have K2 : Keep h0 h2 [r0] := K0.wr W2 (Or.inl (by simp))
  have Fw2 := F_points_r0.same W2
  refine own_go st2 ?_
  show own_Fin p.tables e below (T2.setTop (mkF m 9 #[.val (.ref r0), .val (.int (own_I P)), .val (.ref tt)] [])) _
  refine own_go (B := T2.setTop (mkF m 11 #[.val (.ref r0), .val (.int (own_I P)), .val (.ref tt)] [(.ref tt), (.ref r0)])) (fun t k => ?_) ?_
  · show Steps p.tables e below (T2.setTop (mkF m 9 #[.val (.ref r0), .val (.int (own_I P)), .val (.ref tt)] [])) t
    refine XS.aloadN X2.here hx rfl (hb hby dsi_9) rfl rfl ?_
    refine XS.aloadN X2.here hx rfl (hb hby dsi_10) rfl rfl ?_
    exact k
  have f4 := (F_dice_r0.other W2 (Or.inr (slot_ne (Or.inr (hw _ (List.mem_of_getElem? (i := 72) rfl))) (Or.inr (hw _ (List.mem_of_getElem? (i := 70) rfl))) (by decide) (t := (.array .int)) (t' := .int) (by decide) (by decide))))
  have f5 := (E_r0.wr W2)
  obtain ⟨T3, h3, X3, e3, W3, st3⟩ := putF X2 hx hZ hown (host := "") (Or.inl (hw _ (List.mem_of_getElem? (i := 71) rfl))) Via.refl e2 f4 f5 (Or.inr ⟨(hw _ (List.mem_of_getElem? (i := 72) rfl)), rfl, hnm⟩) (hw _ (List.mem_of_getElem? (i := 53) rfl)) (ty := (.array .int)) (by decide) rfl rfl (g := (mkF m 11 #[.val (.ref r0), .val (.int (own_I P)), .val (.ref tt)] [(.ref tt), (.ref r0)])) rfl rfl (hb hby dsi_11)
  have N3 := Fr.snoc X3 N2 g_r0
  have K3 : Keep h0 h3 [r0] := K2.wr W3 (Or.inl (by simp))
  have Fw3 := f4.same W3
  refine own_go st3 ?_
  show own_Fin p.tables e below (T3.setTop (mkF m 14 #[.val (.ref r0), .val (.int (own_I P)), .val (.ref tt)] [])) _
  obtain ⟨fs, hr, hrun, hended, hW, hsame⟩ := X3.leave (v := none) (fun _ => rfl)
  refine ⟨_, _, ?_, hrun, hended, _, _, rfl, ?_, ⟨_, rfl⟩, hW, hsame.mono (by decide) (by decide)⟩
  · exact X3.returnOut hx Bd.returns (hb hby dsi_14) hr
  · show Qsi Z r0 P tt h0 n0 _ T3.heap _
    rw [e3]
    have f7 := (f5.wr W3)
    have f8 := (Fw2.other W3 (Or.inr (slot_ne (Or.inr (hw _ (List.mem_of_getElem? (i := 70) rfl))) (Or.inr (hw _ (List.mem_of_getElem? (i := 72) rfl))) (by decide) (t := .int) (t' := (.array .int)) (by decide) (by decide))))
    exact ⟨rfl, N3, K3, f7, f8, Fw3⟩
theorem dof_0 : decode prog_52_method_2_code 0 = .ok (.aload_n 0, 1) := by decide +kernel
theorem dof_1 : decode prog_52_method_2_code 1 = .ok (.arraylength, 1) := by decide +kernel
theorem dof_2 : decode prog_52_method_2_code 2 = .ok (.iconst 1, 1) := by decide +kernel
theorem dof_3 : decode prog_52_method_2_code 3 = .ok (.if_icmp .lt 10, 3) := by decide +kernel
theorem dof_6 : decode prog_52_method_2_code 6 = .ok (.aload_n 0, 1) := by decide +kernel
theorem dof_7 : decode prog_52_method_2_code 7 = .ok (.arraylength, 1) := by decide +kernel
theorem dof_8 : decode prog_52_method_2_code 8 = .ok (.bipush 6, 2) := by decide +kernel
theorem dof_10 : decode prog_52_method_2_code 10 = .ok (.if_icmp .le 18, 3) := by decide +kernel
theorem dof_28 : decode prog_52_method_2_code 28 = .ok (.aload_n 0, 1) := by decide +kernel
theorem dof_29 : decode prog_52_method_2_code 29 = .ok (.invokestatic 26, 3) := by decide +kernel
theorem dof_32 : decode prog_52_method_2_code 32 = .ok (.astore_n 1, 1) := by decide +kernel
theorem dof_33 : decode prog_52_method_2_code 33 = .ok (.iconst 0, 1) := by decide +kernel
theorem dof_34 : decode prog_52_method_2_code 34 = .ok (.istore_n 2, 1) := by decide +kernel
theorem dof_35 : decode prog_52_method_2_code 35 = .ok (.aload_n 0, 1) := by decide +kernel
theorem dof_36 : decode prog_52_method_2_code 36 = .ok (.arraylength, 1) := by decide +kernel
theorem dof_37 : decode prog_52_method_2_code 37 = .ok (.newarray .int, 2) := by decide +kernel
theorem dof_39 : decode prog_52_method_2_code 39 = .ok (.astore_n 3, 1) := by decide +kernel
theorem dof_40 : decode prog_52_method_2_code 40 = .ok (.iconst 0, 1) := by decide +kernel
theorem dof_41 : decode prog_52_method_2_code 41 = .ok (.istore 4, 2) := by decide +kernel
theorem dof_43 : decode prog_52_method_2_code 43 = .ok (.iconst 1, 1) := by decide +kernel
theorem dof_44 : decode prog_52_method_2_code 44 = .ok (.istore 5, 2) := by decide +kernel
theorem dof_46 : decode prog_52_method_2_code 46 = .ok (.iload 5, 2) := by decide +kernel
theorem dof_48 : decode prog_52_method_2_code 48 = .ok (.bipush 6, 2) := by decide +kernel
theorem dof_50 : decode prog_52_method_2_code 50 = .ok (.if_icmp .gt 54, 3) := by decide +kernel
theorem dof_53 : decode prog_52_method_2_code 53 = .ok (.iload 5, 2) := by decide +kernel
theorem dof_55 : decode prog_52_method_2_code 55 = .ok (.aload_n 1, 1) := by decide +kernel
theorem dof_56 : decode prog_52_method_2_code 56 = .ok (.iload 5, 2) := by decide +kernel
theorem dof_58 : decode prog_52_method_2_code 58 = .ok (.iaload, 1) := by decide +kernel
theorem dof_59 : decode prog_52_method_2_code 59 = .ok (.invokestatic 34, 3) := by decide +kernel
theorem dof_62 : decode prog_52_method_2_code 62 = .ok (.istore 6, 2) := by decide +kernel
theorem dof_64 : decode prog_52_method_2_code 64 = .ok (.iload 6, 2) := by decide +kernel
theorem dof_66 : decode prog_52_method_2_code 66 = .ok (.ifCond .le 32, 3) := by decide +kernel
theorem dof_69 : decode prog_52_method_2_code 69 = .ok (.iload_n 2, 1) := by decide +kernel
theorem dof_70 : decode prog_52_method_2_code 70 = .ok (.iload 6, 2) := by decide +kernel
theorem dof_72 : decode prog_52_method_2_code 72 = .ok (.iadd, 1) := by decide +kernel
theorem dof_73 : decode prog_52_method_2_code 73 = .ok (.istore_n 2, 1) := by decide +kernel
theorem dof_74 : decode prog_52_method_2_code 74 = .ok (.aload_n 3, 1) := by decide +kernel
theorem dof_75 : decode prog_52_method_2_code 75 = .ok (.iload 4, 2) := by decide +kernel
theorem dof_77 : decode prog_52_method_2_code 77 = .ok (.iload 4, 2) := by decide +kernel
theorem dof_79 : decode prog_52_method_2_code 79 = .ok (.aload_n 1, 1) := by decide +kernel
theorem dof_80 : decode prog_52_method_2_code 80 = .ok (.iload 5, 2) := by decide +kernel
theorem dof_82 : decode prog_52_method_2_code 82 = .ok (.iaload, 1) := by decide +kernel
theorem dof_83 : decode prog_52_method_2_code 83 = .ok (.iadd, 1) := by decide +kernel
theorem dof_84 : decode prog_52_method_2_code 84 = .ok (.iload 5, 2) := by decide +kernel
theorem dof_86 : decode prog_52_method_2_code 86 = .ok (.invokestatic 38, 3) := by decide +kernel
theorem dof_89 : decode prog_52_method_2_code 89 = .ok (.iload 4, 2) := by decide +kernel
theorem dof_91 : decode prog_52_method_2_code 91 = .ok (.aload_n 1, 1) := by decide +kernel
theorem dof_92 : decode prog_52_method_2_code 92 = .ok (.iload 5, 2) := by decide +kernel
theorem dof_94 : decode prog_52_method_2_code 94 = .ok (.iaload, 1) := by decide +kernel
theorem dof_95 : decode prog_52_method_2_code 95 = .ok (.iadd, 1) := by decide +kernel
theorem dof_96 : decode prog_52_method_2_code 96 = .ok (.istore 4, 2) := by decide +kernel
theorem dof_98 : decode prog_52_method_2_code 98 = .ok (.iinc 5 1, 3) := by decide +kernel
theorem dof_101 : decode prog_52_method_2_code 101 = .ok (.goto (-55), 3) := by decide +kernel
theorem dof_104 : decode prog_52_method_2_code 104 = .ok (.new 8, 3) := by decide +kernel
theorem dof_107 : decode prog_52_method_2_code 107 = .ok (.dup, 1) := by decide +kernel
theorem dof_108 : decode prog_52_method_2_code 108 = .ok (.iload_n 2, 1) := by decide +kernel
theorem dof_109 : decode prog_52_method_2_code 109 = .ok (.aload_n 3, 1) := by decide +kernel
theorem dof_110 : decode prog_52_method_2_code 110 = .ok (.iload 4, 2) := by decide +kernel
theorem dof_112 : decode prog_52_method_2_code 112 = .ok (.invokestatic 44, 3) := by decide +kernel
theorem dof_115 : decode prog_52_method_2_code 115 = .ok (.invokespecial 48, 3) := by decide +kernel
theorem dof_118 : decode prog_52_method_2_code 118 = .ok (.areturn, 1) := by decide +kernel
theorem pnof : plainName "com/example/rollhaus/rollhaus/zehntausend/Scoring" = true := by first | (simp [plainName, overriddenIn]; done) | decide +kernel
theorem pdof_0 : parseMethodDescriptor "([I)[I" = some ⟨[(.array .int)], some (.array .int)⟩ := by decide +kernel
theorem pdof_1 : parseMethodDescriptor "([II)[I" = some ⟨[(.array .int), .int], some (.array .int)⟩ := by decide +kernel
theorem pdof_2 : parseMethodDescriptor "(I[I)V" = some ⟨[.int, (.array .int)], none⟩ := by decide +kernel
theorem pdof_3 : parseMethodDescriptor "(II)I" = some ⟨[.int, .int], some .int⟩ := by decide +kernel
theorem pdof_4 : parseMethodDescriptor "([IIII)V" = some ⟨[(.array .int), .int, .int, .int], none⟩ := by decide +kernel
theorem efof (m : MethodId) (z0 : Addr) : entryFrame m #[(.ref z0)] 7 = mkF m 0 #[.val (.ref z0), .unset, .unset, .unset, .unset, .unset, .unset] [] := by first | (simp [entryFrame, mkF, argsToLocals, Value.category]; done) | rfl
def Qof (Z : State) (r0 : Addr) (s1 : Addr) (s3 : Addr) (kS : ClassId) (kT : ClassId) (kc : ClassId) (nn : Nat) (ds : List Nat) (cl : List Nat) (h0 : Heap) (n0 : Nat) (v : Option Value) (h : Heap) (L : List Loc) : Prop := ∃ (x t : Addr) (kt : ClassId), v = some (.ref x) ∧ Fr n0 L ∧ Keep h0 h [] ∧ h0.size ≤ x ∧ h0.size ≤ t ∧ x ≠ t ∧ Exa Z h x "com/example/rollhaus/rollhaus/zehntausend/Scoring" ∧ Fld Z h x "com/example/rollhaus/rollhaus/zehntausend/Scoring" "points" "I" (.int (own_I (own_res cl).1)) ∧ Fld Z h x "com/example/rollhaus/rollhaus/zehntausend/Scoring" "dice" "[I" (.ref t) ∧ Exa Z h t "[I" ∧ Arv Z h t kt .int (own_I (own_res cl).2.length) ((own_res cl).2.map own_V) (.int (0 : Int32))
set_option maxRecDepth 65536 in
set_option maxHeartbeats 40000000 in
theorem rmof (l : Launch) (Z : State) (a0 : Array Value) (hw : ∀ d ∈ tables_1, d.before a0 Z = true) (ws : List Jvm.Cond) (r0 : Addr) (s1 : Addr) (s3 : Addr) (kS : ClassId) (kT : ClassId) (kc : ClassId) (nn : Nat) (ds : List Nat) (cl : List Nat) (h0 : Heap) (n0 : Nat) (Z0 : n0 ≤ h0.size) (O0 : Old Z n0 h0) (Ssg : Sta Z Z.heap "com/example/rollhaus/rollhaus/zehntausend/Scoring" "SINGLE" "[I" (.ref s1)) (Sth : Sta Z Z.heap "com/example/rollhaus/rollhaus/zehntausend/Scoring" "THREE_ALIKE" "[I" (.ref s3)) (Vsg : Arv Z h0 s1 kS .int (7 : Int32) (own_S.map own_V) (.int (0 : Int32))) (Vth : Arv Z h0 s3 kT .int (7 : Int32) (own_T.map own_V) (.int (0 : Int32))) (V0 : Arv Z h0 r0 kc .int (own_I nn) (ds.map own_V) (.int (0 : Int32))) (hds : ds.length = nn) (h1n : 1 ≤ nn) (hnn : nn ≤ 6) (hd6 : ∀ d ∈ ds, 1 ≤ d ∧ d ≤ 6) (hcl : own_counts ds own_z7 = cl) (hc7 : cl.length = 7) (hrem : own_rem cl 6 1 = nn) :
    MetFree l (⟨"com/example/rollhaus/rollhaus/zehntausend/Scoring", "of", "([I)Lcom/example/rollhaus/rollhaus/zehntausend/Scoring;"⟩ : MethodName) (head1 (Jvm.Cond.code (⟨"com/example/rollhaus/rollhaus/zehntausend/Scoring", "of", "([I)Lcom/example/rollhaus/rollhaus/zehntausend/Scoring;"⟩ : MethodName) prog_52_method_2_code 7 (some (.object "com/example/rollhaus/rollhaus/zehntausend/Scoring")) :: ws) ({ frames := 2, cells := 4, slots := 21, locals := 60 } : Room)) (fun a U => a = #[(.ref r0)] ∧ Z.Warmed39 U.vm ∧ U.heap = h0) (fun _ _ _ _ _ => True) (fun _ U o U' => ∃ v L, o = .returned v ∧ Qof Z r0 s1 s3 kS kT kc nn ds cl h0 n0 v U'.heap L ∧ FrameEnd U o U' L ({ frames := 2, cells := 4, slots := 21, locals := 60 } : Room).cells ({ frames := 2, cells := 4, slots := 21, locals := 60 } : Room).slots) := by
  refine MetFree.of_bodySF (plainFor_of_name pnof) hisR ?_
  intro p e s m args below meth c s₁ Bd hml0 hP hK
  obtain ⟨rfl, hZ, hh⟩ := hP
  have hx := Bd.exec
  have hby := Bd.bytes
  have hml : c.maxLocals = 7 := hml0
  have hown : s.vm.findClass "com/example/rollhaus/rollhaus/zehntausend/Scoring" = some m.cls := findClass_of_methodNamed Bd.named
  have hnm := (name_of_methodNamed Bd.named Bd.method).1
  have X0 : Stand p l e ({ frames := 2, cells := 4, slots := 21, locals := 60 } : Room) s m #[(.ref r0)] below meth c s₁ [] 0 0 := Stand.of_body Bd
  have e0 : s₁.heap = h0 := by rw [← hh, Bd.state]; rfl
  have N0 := Fr.nil n0
  have K0 : Keep h0 h0 [] := Keep.refl h0 _
  refine own_in ?_
  refine own_go (B := s₁.setTop (mkF m 0 #[.val (.ref r0), .unset, .unset, .unset, .unset, .unset, .unset] [])) (fun t k => castTop (efof m r0) k) ?_
  refine own_go (B := s₁.setTop (mkF m 1 #[.val (.ref r0), .unset, .unset, .unset, .unset, .unset, .unset] [(.ref r0)])) (fun t k => ?_) ?_
  · show Steps p.tables e below (s₁.setTop (mkF m 0 #[.val (.ref r0), .unset, .unset, .unset, .unset, .unset, .unset] [])) t
    refine XS.aloadN X0.here hx rfl (hb hby dof_0) rfl rfl ?_
    exact k
  obtain ⟨cl1, Ar1, -, S1, M1, -, -⟩ := id V0
  refine own_go (B := s₁.setTop (mkF m 2 #[.val (.ref r0), .unset, .unset, .unset, .unset, .unset, .unset] [(.int (own_I nn))])) (fun t k => ?_) ?_
  · refine X0.arraylength hx (by first | exact Ar1.1 | (rw [e0]; exact Ar1.1)) (State.isArrayOf_alike hZ.alike Ar1.2.1) (g := (mkF m 1 #[.val (.ref r0), .unset, .unset, .unset, .unset, .unset, .unset] [(.ref r0)])) rfl rfl (hb hby dof_1) _ ?_
    rw [len_of S1 M1]
    exact k
  refine own_go (B := s₁.setTop (mkF m 3 #[.val (.ref r0), .unset, .unset, .unset, .unset, .unset, .unset] [(.int (1 : Int32)), (.int (own_I nn))])) (fun t k => ?_) ?_
  · show Steps p.tables e below (s₁.setTop (mkF m 2 #[.val (.ref r0), .unset, .unset, .unset, .unset, .unset, .unset] [(.int (own_I nn))])) t
    refine XS.iconst X0.here hx rfl (hb hby dof_2) ?_
    exact k
  have hc2 : ¬ ((own_I nn) < (1 : Int32)) := own_nlt (n := 1) h1n (by omega)
  refine own_go (B := s₁.setTop (mkF m 7 #[.val (.ref r0), .unset, .unset, .unset, .unset, .unset, .unset] [(.ref r0)])) (fun t k => ?_) ?_
  · show Steps p.tables e below (s₁.setTop (mkF m 3 #[.val (.ref r0), .unset, .unset, .unset, .unset, .unset, .unset] [(.int (1 : Int32)), (.int (own_I nn))])) t
    refine XS.icmpNo X0.here hx rfl (hb hby dof_3) rfl (flt hc2).1 ?_
    refine XS.aloadN X0.here hx rfl (hb hby dof_6) rfl rfl ?_
    exact k
  obtain ⟨cl3, Ar3, -, S3, M3, -, -⟩ := id V0
  refine own_go (B := s₁.setTop (mkF m 8 #[.val (.ref r0), .unset, .unset, .unset, .unset, .unset, .unset] [(.int (own_I nn))])) (fun t k => ?_) ?_
  · refine X0.arraylength hx (by first | exact Ar3.1 | (rw [e0]; exact Ar3.1)) (State.isArrayOf_alike hZ.alike Ar3.2.1) (g := (mkF m 7 #[.val (.ref r0), .unset, .unset, .unset, .unset, .unset, .unset] [(.ref r0)])) rfl rfl (hb hby dof_7) _ ?_
    rw [len_of S3 M3]
    exact k
  refine own_go (B := s₁.setTop (mkF m 10 #[.val (.ref r0), .unset, .unset, .unset, .unset, .unset, .unset] [(.int (6 : Int32)), (.int (own_I nn))])) (fun t k => ?_) ?_
  · show Steps p.tables e below (s₁.setTop (mkF m 8 #[.val (.ref r0), .unset, .unset, .unset, .unset, .unset, .unset] [(.int (own_I nn))])) t
    refine XS.bipush X0.here hx rfl (hb hby dof_8) ?_
    exact k
  have hc4 : ¬ ((6 : Int32) < (own_I nn)) := own_nlt (i := 6) hnn (by decide)
  refine own_go (B := s₁.setTop (mkF m 29 #[.val (.ref r0), .unset, .unset, .unset, .unset, .unset, .unset] [(.ref r0)])) (fun t k => ?_) ?_
  · show Steps p.tables e below (s₁.setTop (mkF m 10 #[.val (.ref r0), .unset, .unset, .unset, .unset, .unset, .unset] [(.int (6 : Int32)), (.int (own_I nn))])) t
    refine XS.icmpYes X0.here hx rfl (pc0 := 10) (pc' := 28) rfl (hb hby dof_10) rfl (flt hc4).2.2.2 (by decide) (by decide) ?_
    refine XS.aloadN X0.here hx rfl (hb hby dof_28) rfl rfl ?_
    exact k
  obtain ⟨_, _, ⟨T5, L5, k5, n5⟩, -, X5, ⟨Lc5, hQ5, l5, y5, z5⟩, st5⟩ := Jvm.LawKit.callS X0 hx (y := (⟨"com/example/rollhaus/rollhaus/dice/Faces", "counts", "([I)[I"⟩ : MethodName)) hown (mvT hZ (hw _ (List.mem_of_getElem? (i := 33) rfl))) (mvT hZ (hw _ (List.mem_of_getElem? (i := 34) rfl))) (mvT hZ (hw _ (List.mem_of_getElem? (i := 35) rfl))) (mvT hZ (hw _ (List.mem_of_getElem? (i := 36) rfl))) (by decide) (backOf (W := 0) (rmco l Z a0 hw [] r0 kc nn ds h0 n0 Z0 V0 hds hnn hd6) hZ (hw _ (List.mem_of_getElem? (i := 36) rfl)) (hw _ (List.mem_of_getElem? (i := 35) rfl)) (by decide) (by decide)) (g := (mkF m 29 #[.val (.ref r0), .unset, .unset, .unset, .unset, .unset, .unset] [(.ref r0)])) rfl (by rw [hml]; rfl) (argsL := [(.ref r0)]) (rest := []) (lenOf pdof_0 rfl) rfl (by show 2 * 0 + _ ≤ _; exact Nat.le_of_eq rfl) (hb hby dof_29) (fun _ _ => ⟨rfl, e0, (by decide : 0 + 1 ≤ _), (by decide : 0 + 7 ≤ _)⟩)
  dsimp only [Pt.U, Pt.locs, Pt.cells, Pt.slots] at X5 l5 y5 z5 st5 hQ5
  subst y5 z5
  have X5 : Stand p l e ({ frames := 2, cells := 4, slots := 21, locals := 60 } : Room) s m #[(.ref r0)] below meth c T5 _ 1 7 := X5
  obtain ⟨x5, kx5, rfl, N5q, Kq5, lt_x5, EA5, V5⟩ := hQ5
  have N5 : Fr n0 L5 := by rw [l5]; exact Fr.app N0 N5q
  rw [hcl] at V5
  have K5 : Keep h0 T5.heap [] := K0.trans Kq5 all0
  have sz_x5 : h0.size ≤ x5 := Nat.le_trans K0.1 lt_x5
  have g_x5 : n0 ≤ x5 := Nat.le_trans Z0 sz_x5
  have ne6 : s1 ≠ x5 := Nat.ne_of_lt (Nat.lt_of_lt_of_le Vsg.lt lt_x5)
  have ne7 : s3 ≠ x5 := Nat.ne_of_lt (Nat.lt_of_lt_of_le Vth.lt lt_x5)
  have ne8 : r0 ≠ x5 := Nat.ne_of_lt (Nat.lt_of_lt_of_le V0.lt lt_x5)
  refine own_go (st5) ?_
  show own_Fin p.tables e below (T5.setTop (mkF m 32 #[.val (.ref r0), .unset, .unset, .unset, .unset, .unset, .unset] [(.ref x5)])) _
  refine own_go (B := T5.setTop (mkF m 36 #[.val (.ref r0), .val (.ref x5), .val (.int (0 : Int32)), .unset, .unset, .unset, .unset] [(.ref r0)])) (fun t k => ?_) ?_
  · show Steps p.tables e below (T5.setTop (mkF m 32 #[.val (.ref r0), .unset, .unset, .unset, .unset, .unset, .unset] [(.ref x5)])) t
    refine XS.astoreN X5.here hx rfl (hb hby dof_32) rfl rfl (l' := #[.val (.ref r0), .val (.ref x5), .unset, .unset, .unset, .unset, .unset]) rfl ?_
    refine XS.iconst X5.here hx rfl (hb hby dof_33) ?_
    refine XS.istoreN X5.here hx rfl (hb hby dof_34) rfl (l' := #[.val (.ref r0), .val (.ref x5), .val (.int (0 : Int32)), .unset, .unset, .unset, .unset]) rfl ?_
    refine XS.aloadN X5.here hx rfl (hb hby dof_35) rfl rfl ?_
    exact k
  have f10 := (V0.keep Kq5 nin0)
  obtain ⟨cl9, Ar9, -, S9, M9, -, -⟩ := id f10
  refine own_go (B := T5.setTop (mkF m 37 #[.val (.ref r0), .val (.ref x5), .val (.int (0 : Int32)), .unset, .unset, .unset, .unset] [(.int (own_I nn))])) (fun t k => ?_) ?_
  · refine X5.arraylength hx (by first | exact Ar9.1 | (rw [rfl]; exact Ar9.1)) (State.isArrayOf_alike hZ.alike Ar9.2.1) (g := (mkF m 36 #[.val (.ref r0), .val (.ref x5), .val (.int (0 : Int32)), .unset, .unset, .unset, .unset] [(.ref r0)])) rfl rfl (hb hby dof_36) _ ?_
    rw [len_of S9 M9]
    exact k
  obtain ⟨T11, h11, k11, X11, e11, E11, A11, EA11, st11⟩ := newPE X5 hx hZ (hw _ (List.mem_of_getElem? (i := 0) rfl)) rfl (g := (mkF m 37 #[.val (.ref r0), .val (.ref x5), .val (.int (0 : Int32)), .unset, .unset, .unset, .unset] [(.int (own_I nn))])) rfl (hb hby dof_37) rfl (own_nn (by omega)) (cap := 6) (by rw [own_natI (by omega)]; omega) (by decide) (by decide) (by decide) (ad := "[I") (by decide)
  obtain ⟨b11, g11⟩ : ∃ z, z = T5.heap.size := ⟨_, rfl⟩
  rw [← g11] at A11 EA11 st11
  have g_b11 : n0 ≤ b11 := by rw [g11]; exact (Nat.le_trans Z0 K5.1)
  have sz_b11 : h0.size ≤ b11 := by rw [g11]; exact K5.1
  have f12 := (Vsg.keep Kq5 nin0)
  have ne13 : s1 ≠ b11 := Nat.ne_of_lt (by rw [g11]; exact f12.lt)
  have f14 := (Vth.keep Kq5 nin0)
  have ne15 : s3 ≠ b11 := Nat.ne_of_lt (by rw [g11]; exact f14.lt)
  have ne16 : r0 ≠ b11 := Nat.ne_of_lt (by rw [g11]; exact f10.lt)
  have ne17 : x5 ≠ b11 := Nat.ne_of_lt (by rw [g11]; exact EA5.lt)
  have K11 : Keep h0 h11 [] := K5.ext E11
  have X11 : Stand p l e ({ frames := 2, cells := 4, slots := 21, locals := 60 } : Room) s m #[(.ref r0)] below meth c T11 _ 2 13 := X11
  have V_b11 : Arv Z h11 b11 k11 .int (own_I nn) ((List.replicate nn 0).map own_V) (.int (0 : Int32)) := (Arv.new A11 (own_nn (by omega))).pad (own_zero nn)
  refine own_go st11 ?_
  show own_Fin p.tables e below (T11.setTop (mkF m 39 #[.val (.ref r0), .val (.ref x5), .val (.int (0 : Int32)), .unset, .unset, .unset, .unset] [(.ref b11)])) _
  refine own_go (B := T11.setTop (mkF m 46 #[.val (.ref r0), .val (.ref x5), .val (.int (0 : Int32)), .val (.ref b11), .val (.int (0 : Int32)), .val (.int (1 : Int32)), .unset] [])) (fun t k => ?_) ?_
  · show Steps p.tables e below (T11.setTop (mkF m 39 #[.val (.ref r0), .val (.ref x5), .val (.int (0 : Int32)), .unset, .unset, .unset, .unset] [(.ref b11)])) t
    refine XS.astoreN X11.here hx rfl (hb hby dof_39) rfl rfl (l' := #[.val (.ref r0), .val (.ref x5), .val (.int (0 : Int32)), .val (.ref b11), .unset, .unset, .unset]) rfl ?_
    refine XS.iconst X11.here hx rfl (hb hby dof_40) ?_
    refine XS.istore X11.here hx rfl (hb hby dof_41) rfl (l' := #[.val (.ref r0), .val (.ref x5), .val (.int (0 : Int32)), .val (.ref b11), .val (.int (0 : Int32)), .unset, .unset]) rfl ?_
    refine XS.iconst X11.here hx rfl (hb hby dof_43) ?_
    show Steps p.tables e below (T11.setTop (mkF m 44 #[.val (.ref r0), .val (.ref x5), .val (.int (0 : Int32)), .val (.ref b11), .val (.int (0 : Int32)), .unset, .unset] [(.int (1 : Int32))])) t
    refine XS.istore X11.here hx rfl (hb hby dof_44) rfl (l' := #[.val (.ref r0), .val (.ref x5), .val (.int (0 : Int32)), .val (.ref b11), .val (.int (0 : Int32)), .val (.int (1 : Int32)), .unset]) rfl ?_
    exact k
  have loop : ∀ (mm f P kk : Nat) (us : List Nat) (T : State) (hh : Heap) (locs : List Loc) (sl : Slot) (hs : One sl) (X : Stand p l e ({ frames := 2, cells := 4, slots := 21, locals := 60 } : Room) s m #[(.ref r0)] below meth c T locs 2 13) (eT : T.heap = hh) (N : Fr n0 locs) (K : Keep h0 hh []) (Vx : Arv Z hh x5 kx5 .int (7 : Int32) (cl.map own_V) (.int (0 : Int32))) (Vb : Arv Z hh b11 k11 .int (own_I nn) (us.map own_V) (.int (0 : Int32))) (Eb : Exa Z hh b11 "[I") (hus : us.length = nn) (hfm : f + mm = 7) (h1f : 1 ≤ f) (hkr : kk + own_rem cl mm f ≤ nn) (ha : own_of cl mm f P us kk = own_of cl 6 1 0 (List.replicate nn 0) 0), own_Fin p.tables e below (T.setTop (mkF m 46 #[.val (.ref r0), .val (.ref x5), .val (.int (own_I P)), .val (.ref b11), .val (.int (own_I kk)), .val (.int (own_I f)), sl] [])) (fun s₂ o => s₂.status = .running ∧ Ended s₂ below o ∧ ∃ v L, o = .returned v ∧ Qof Z r0 s1 s3 kS kT kc nn ds cl h0 n0 v s₂.heap L ∧ FrameEnd s o s₂ L ({ frames := 2, cells := 4, slots := 21, locals := 60 } : Room).cells ({ frames := 2, cells := 4, slots := 21, locals := 60 } : Room).slots) := by
    intro mm
    induction mm with
    | zero =>
      intro f P kk us T hh locs sl hs X eT N K Vx Vb Eb hus hfm h1f hkr ha
      have V1h := Vsg.keep K nin0
      have V3h := Vth.keep K nin0
      have Oh := O0.keep K all0
      have V0h := V0.keep K nin0
      have hkk : kk ≤ nn := by omega
      refine own_go (B := T.setTop (mkF m 50 #[.val (.ref r0), .val (.ref x5), .val (.int (own_I P)), .val (.ref b11), .val (.int (own_I kk)), .val (.int (own_I f)), sl] [(.int (6 : Int32)), (.int (own_I f))])) (fun t k => ?_) ?_
      · show Steps p.tables e below (T.setTop (mkF m 46 #[.val (.ref r0), .val (.ref x5), .val (.int (own_I P)), .val (.ref b11), .val (.int (own_I kk)), .val (.int (own_I f)), sl] [])) t
        refine XS.iload X.here hx rfl (hb hby dof_46) rfl ?_
        refine XS.bipush X.here hx rfl (hb hby dof_48) ?_
        exact k
      have hc18 : (6 : Int32) < (own_I f) := own_ltI (i := 6) (by omega) (by omega)
      refine own_go (B := T.setTop (mkF m 104 #[.val (.ref r0), .val (.ref x5), .val (.int (own_I P)), .val (.ref b11), .val (.int (own_I kk)), .val (.int (own_I f)), sl] [])) (fun t k => ?_) ?_
      · show Steps p.tables e below (T.setTop (mkF m 50 #[.val (.ref r0), .val (.ref x5), .val (.int (own_I P)), .val (.ref b11), .val (.int (own_I kk)), .val (.int (own_I f)), sl] [(.int (6 : Int32)), (.int (own_I f))])) t
        refine XS.icmpYes X.here hx rfl (pc0 := 50) (pc' := 104) rfl (hb hby dof_50) rfl (tlt hc18).2.2.1 (by decide) (by decide) ?_
        exact k
      obtain ⟨T19, h19, X19, e19, E19, A19, D19, -, st19⟩ := newO X hx hZ hown (hw _ (List.mem_of_getElem? (i := 52) rfl)) (hw _ (List.mem_of_getElem? (i := 53) rfl)) (hw _ (List.mem_of_getElem? (i := 31) rfl)) eT (g := (mkF m 104 #[.val (.ref r0), .val (.ref x5), .val (.int (own_I P)), .val (.ref b11), .val (.int (own_I kk)), .val (.int (own_I f)), sl] [])) rfl (hb hby dof_104) (by decide) (by decide)
      obtain ⟨b19, g19⟩ : ∃ z, z = hh.size := ⟨_, rfl⟩
      rw [← g19] at A19 D19 st19
      have g_b19 : n0 ≤ b19 := by rw [g19]; exact (Nat.le_trans Z0 K.1)
      have sz_b19 : h0.size ≤ b19 := by rw [g19]; exact K.1
      have ne20 : s1 ≠ b19 := Nat.ne_of_lt (by rw [g19]; exact V1h.lt)
      have ne21 : s3 ≠ b19 := Nat.ne_of_lt (by rw [g19]; exact V3h.lt)
      have ne22 : r0 ≠ b19 := Nat.ne_of_lt (by rw [g19]; exact V0h.lt)
      have ne23 : x5 ≠ b19 := Nat.ne_of_lt (by rw [g19]; exact Vx.lt)
      have ne24 : b11 ≠ b19 := Nat.ne_of_lt (by rw [g19]; exact Vb.lt)
      have K19 : Keep h0 h19 [] := K.ext E19
      have X19 : Stand p l e ({ frames := 2, cells := 4, slots := 21, locals := 60 } : Room) s m #[(.ref r0)] below meth c T19 _ 3 15 := X19
      have F_points_b19 : Fld Z h19 b19 "com/example/rollhaus/rollhaus/zehntausend/Scoring" "points" "I" (.int (0 : Int32)) := D19 (Or.inr (hw _ (List.mem_of_getElem? (i := 70) rfl))) (ty := .int) (by decide)
      have F_dice_b19 : Fld Z h19 b19 "com/example/rollhaus/rollhaus/zehntausend/Scoring" "dice" "[I" .null := D19 (Or.inr (hw _ (List.mem_of_getElem? (i := 72) rfl))) (ty := (.array .int)) (by decide)
      refine own_go st19 ?_
      show own_Fin p.tables e below (T19.setTop (mkF m 107 #[.val (.ref r0), .val (.ref x5), .val (.int (own_I P)), .val (.ref b11), .val (.int (own_I kk)), .val (.int (own_I f)), sl] [(.ref b19)])) _
      refine own_go (B := T19.setTop (mkF m 112 #[.val (.ref r0), .val (.ref x5), .val (.int (own_I P)), .val (.ref b11), .val (.int (own_I kk)), .val (.int (own_I f)), sl] [(.int (own_I kk)), (.ref b11), (.int (own_I P)), (.ref b19), (.ref b19)])) (fun t k => ?_) ?_
      · show Steps p.tables e below (T19.setTop (mkF m 107 #[.val (.ref r0), .val (.ref x5), .val (.int (own_I P)), .val (.ref b11), .val (.int (own_I kk)), .val (.int (own_I f)), sl] [(.ref b19)])) t
        refine XS.dup X19.here hx rfl (hb hby dof_107) rfl rfl ?_
        refine XS.iloadN X19.here hx rfl (hb hby dof_108) rfl ?_
        refine XS.aloadN X19.here hx rfl (hb hby dof_109) rfl rfl ?_
        refine XS.iload X19.here hx rfl (hb hby dof_110) rfl ?_
        exact k
      have f26 := (Vb.ext E19)
      have f27 := (Eb.ext E19)
      obtain ⟨_, _, ⟨T25, L25, k25, n25⟩, -, X25, ⟨Lc25, hQ25, l25, y25, z25⟩, st25⟩ := Jvm.LawKit.callS X19 hx (y := (⟨"java/util/Arrays", "copyOf", "([II)[I"⟩ : MethodName)) hown (mvT hZ (hw _ (List.mem_of_getElem? (i := 54) rfl))) (mvT hZ (hw _ (List.mem_of_getElem? (i := 55) rfl))) (mvT hZ (hw _ (List.mem_of_getElem? (i := 47) rfl))) (mvT hZ (hw _ (List.mem_of_getElem? (i := 56) rfl))) (by decide) (backOf (W := 3) (rmcp l Z a0 hw [] b11 kk k11 nn us h19 n0 (Nat.le_trans Z0 K19.1) f26 f27 hus (by omega) hnn) hZ (hw _ (List.mem_of_getElem? (i := 56) rfl)) (hw _ (List.mem_of_getElem? (i := 47) rfl)) (by decide) (by decide)) (g := (mkF m 112 #[.val (.ref r0), .val (.ref x5), .val (.int (own_I P)), .val (.ref b11), .val (.int (own_I kk)), .val (.int (own_I f)), sl] [(.int (own_I kk)), (.ref b11), (.int (own_I P)), (.ref b19), (.ref b19)])) rfl (by rw [hml]; rfl) (argsL := [(.ref b11), (.int (own_I kk))]) (rest := [(.int (own_I P)), (.ref b19), (.ref b19)]) (lenOf pdof_1 rfl) rfl (by show 2 * 0 + _ ≤ _; exact Nat.le_of_eq rfl) (hb hby dof_112) (fun _ _ => ⟨rfl, e19, (by decide : 3 + 1 ≤ _), (by decide : 15 + 6 ≤ _)⟩)
      dsimp only [Pt.U, Pt.locs, Pt.cells, Pt.slots] at X25 l25 y25 z25 st25 hQ25
      subst y25 z25
      have X25 : Stand p l e ({ frames := 2, cells := 4, slots := 21, locals := 60 } : Room) s m #[(.ref r0)] below meth c T25 _ 4 21 := X25
      have f28 := (V1h.ext E19)
      have f29 := (V3h.ext E19)
      have f30 := (V0h.ext E19)
      have f31 := (Vx.ext E19)
      obtain ⟨x25, kx25, rfl, N25q, Kq25, lt_x25, EA25, V25⟩ := hQ25
      have N25 : Fr n0 L25 := by rw [l25]; exact Fr.app N N25q
      have K25 : Keep h0 T25.heap [] := K19.trans Kq25 all0
      have sz_x25 : h0.size ≤ x25 := Nat.le_trans K19.1 lt_x25
      have g_x25 : n0 ≤ x25 := Nat.le_trans Z0 sz_x25
      have ne32 : s1 ≠ x25 := Nat.ne_of_lt (Nat.lt_of_lt_of_le f28.lt lt_x25)
      have ne33 : s3 ≠ x25 := Nat.ne_of_lt (Nat.lt_of_lt_of_le f29.lt lt_x25)
      have ne34 : r0 ≠ x25 := Nat.ne_of_lt (Nat.lt_of_lt_of_le f30.lt lt_x25)
      have ne35 : x5 ≠ x25 := Nat.ne_of_lt (Nat.lt_of_lt_of_le f31.lt lt_x25)
      have ne36 : b11 ≠ x25 := Nat.ne_of_lt (Nat.lt_of_lt_of_le f26.lt lt_x25)
      have ne37 : b19 ≠ x25 := Nat.ne_of_lt (Nat.lt_of_lt_of_le A19.lt lt_x25)
      refine own_go (st25) ?_
      show own_Fin p.tables e below (T25.setTop (mkF m 115 #[.val (.ref r0), .val (.ref x5), .val (.int (own_I P)), .val (.ref b11), .val (.int (own_I kk)), .val (.int (own_I f)), sl] [(.ref x25), (.int (own_I P)), (.ref b19), (.ref b19)])) _
      have f39 := (A19.keep Kq25)
      have f40 := (F_points_b19.keep Kq25 nin0)
      have f41 := (F_dice_b19.keep Kq25 nin0)
      obtain ⟨_, _, ⟨T38, L38, k38, n38⟩, -, X38, ⟨Lc38, hQ38, l38, y38, z38⟩, st38⟩ := X25.specialBack hx (y := (⟨"com/example/rollhaus/rollhaus/zehntausend/Scoring", "<init>", "(I[I)V"⟩ : MethodName)) rfl hown (mvT hZ (hw _ (List.mem_of_getElem? (i := 65) rfl))) (mvT hZ (hw _ (List.mem_of_getElem? (i := 66) rfl))) (mvT hZ (hw _ (List.mem_of_getElem? (i := 67) rfl))) (by decide) (backOf (W := 1) (rmsi l Z a0 hw [] b19 P x25 T25.heap n0 (Nat.le_trans Z0 K25.1) f39 g_b19 f40 f41) hZ (hw _ (List.mem_of_getElem? (i := 67) rfl)) (hw _ (List.mem_of_getElem? (i := 31) rfl)) (by decide) (by decide)) (g := (mkF m 115 #[.val (.ref r0), .val (.ref x5), .val (.int (own_I P)), .val (.ref b11), .val (.int (own_I kk)), .val (.int (own_I f)), sl] [(.ref x25), (.int (own_I P)), (.ref b19), (.ref b19)])) rfl (by rw [hml]; rfl) (Steps.refl _) (a := b19) (argsL := [(.int (own_I P)), (.ref x25)]) (rest := [(.ref b19)]) (lenOf pdof_2 rfl) rfl (by show 2 * 0 + _ ≤ _; exact Nat.le_of_eq rfl) (hb hby dof_115) (fun _ _ => ⟨rfl, rfl, (by decide : 4 + 0 ≤ _), (by decide : 21 + 0 ≤ _)⟩)
      dsimp only [Pt.U, Pt.locs, Pt.cells, Pt.slots] at X38 l38 y38 z38 st38 hQ38
      subst y38 z38
      have X38 : Stand p l e ({ frames := 2, cells := 4, slots := 21, locals := 60 } : Room) s m #[(.ref r0)] below meth c T38 _ 4 21 := X38
      obtain ⟨rfl, N38q, Kq38, f38_0, f38_1, f38_2⟩ := hQ38
      have N38 : Fr n0 L38 := by rw [l38]; exact Fr.app N25 N38q
      have K38 : Keep h0 T38.heap [] := K25.trans Kq38 (allS (Or.inr sz_b19) all0)
      refine own_go (fun _ k => st38.trans k) ?_
      show own_Fin p.tables e below (T38.setTop (mkF m 118 #[.val (.ref r0), .val (.ref x5), .val (.int (own_I P)), .val (.ref b11), .val (.int (own_I kk)), .val (.int (own_I f)), sl] [(.ref b19)])) _
      obtain ⟨fs, hr, hrun, hended, hW, hsame⟩ := X38.leave (v := some (.ref b19)) (fun h => by rw [Bd.returns] at h; cases h)
      refine ⟨_, _, ?_, hrun, hended, _, _, rfl, ?_, ⟨_, rfl⟩, hW, hsame.mono (by decide) (by decide)⟩
      · exact retOut X38 hx (t := (.object "com/example/rollhaus/rollhaus/zehntausend/Scoring")) Bd.returns rfl (Or.inr (Or.inr (Or.inr (Or.inr ⟨rfl, rfl, rfl⟩)))) (hb hby dof_118) hr
      · show Qof Z r0 s1 s3 kS kT kc nn ds cl h0 n0 _ T38.heap _
        skip
        have f43 := (EA25.keep Kq38)
        have f44 := (V25.keep Kq38 (ninS (Ne.symm ne37) nin0))
        have er : own_of cl 6 1 0 (List.replicate (own_rem cl 6 1) 0) 0 = (P, us, kk) := by rw [hrem]; exact ha.symm
        have e1 : (own_res cl).1 = P := by unfold own_res; rw [er]
        have e2 : (own_res cl).2 = us.take kk := by unfold own_res; rw [er]
        have e3 : (us.take kk).length = kk := by rw [List.length_take]; omega
        exact ⟨b19, x25, kx25, rfl, N38, K38, sz_b19, sz_x25, ne37, f38_0, by rw [e1]; exact f38_1, f38_2, f43, by rw [e2, e3]; exact f44⟩
    | succ mm ih =>
      intro f P kk us T hh locs sl hs X eT N K Vx Vb Eb hus hfm h1f hkr ha
      have V1h := Vsg.keep K nin0
      have V3h := Vth.keep K nin0
      have Oh := O0.keep K all0
      have V0h := V0.keep K nin0
      have hcf : cl.getD f 0 ≤ 6 := Nat.le_trans (own_cntLe hc7 h1f (by omega)) (by omega)
      have hkc : kk + cl.getD f 0 ≤ nn := by have q := hkr; rw [own_remU] at q; omega
      refine own_go (B := T.setTop (mkF m 50 #[.val (.ref r0), .val (.ref x5), .val (.int (own_I P)), .val (.ref b11), .val (.int (own_I kk)), .val (.int (own_I f)), sl] [(.int (6 : Int32)), (.int (own_I f))])) (fun t k => ?_) ?_
      · show Steps p.tables e below (T.setTop (mkF m 46 #[.val (.ref r0), .val (.ref x5), .val (.int (own_I P)), .val (.ref b11), .val (.int (own_I kk)), .val (.int (own_I f)), sl] [])) t
        refine XS.iload X.here hx rfl (hb hby dof_46) rfl ?_
        refine XS.bipush X.here hx rfl (hb hby dof_48) ?_
        exact k
      have hc45 : ¬ ((6 : Int32) < (own_I f)) := own_nlt (i := 6) (by omega) (by decide)
      refine own_go (B := T.setTop (mkF m 58 #[.val (.ref r0), .val (.ref x5), .val (.int (own_I P)), .val (.ref b11), .val (.int (own_I kk)), .val (.int (own_I f)), sl] [(.int (own_I f)), (.ref x5), (.int (own_I f))])) (fun t k => ?_) ?_
      · show Steps p.tables e below (T.setTop (mkF m 50 #[.val (.ref r0), .val (.ref x5), .val (.int (own_I P)), .val (.ref b11), .val (.int (own_I kk)), .val (.int (own_I f)), sl] [(.int (6 : Int32)), (.int (own_I f))])) t
        refine XS.icmpNo X.here hx rfl (hb hby dof_50) rfl (flt hc45).2.2.1 ?_
        refine XS.iload X.here hx rfl (hb hby dof_53) rfl ?_
        refine XS.aloadN X.here hx rfl (hb hby dof_55) rfl rfl ?_
        refine XS.iload X.here hx rfl (hb hby dof_56) rfl ?_
        exact k
      obtain ⟨cl46, Ar46, -, S46, M46, Ha46, G46⟩ := id Vx
      have hin46 : ¬ ((own_I f) < 0 ∨ cl46.slots.size ≤ ((own_I f)).toNatClampNeg) := inb_of S46 (own_inI (n := 7) (by omega) (by decide))
      have hat46 : cl46.slots[((own_I f)).toNatClampNeg]? = some (.int (own_I (cl.getD f 0))) := Has.at Ha46 hin46 (own_getI cl (by omega))
      refine own_go (B := T.setTop (mkF m 59 #[.val (.ref r0), .val (.ref x5), .val (.int (own_I P)), .val (.ref b11), .val (.int (own_I kk)), .val (.int (own_I f)), sl] [(.int (own_I (cl.getD f 0))), (.int (own_I f))])) (fun t k => ?_) ?_
      · exact X.iaload hx (j := (own_I f)) (v := (.int (own_I (cl.getD f 0)))) (by first | exact Ar46.1 | (rw [eT]; exact Ar46.1)) (State.isArrayOf_alike hZ.alike Ar46.2.1) Ar46.2.2 hin46 hat46 (g := (mkF m 58 #[.val (.ref r0), .val (.ref x5), .val (.int (own_I P)), .val (.ref b11), .val (.int (own_I kk)), .val (.int (own_I f)), sl] [(.int (own_I f)), (.ref x5), (.int (own_I f))])) rfl rfl (hb hby dof_58) _ k
      obtain ⟨_, _, ⟨T47, L47, k47, n47⟩, -, X47, ⟨Lc47, hQ47, l47, y47, z47⟩, st47⟩ := Jvm.LawKit.callS X hx (y := (⟨"com/example/rollhaus/rollhaus/zehntausend/Scoring", "value", "(II)I"⟩ : MethodName)) hown (mvT hZ (hw _ (List.mem_of_getElem? (i := 40) rfl))) (mvT hZ (hw _ (List.mem_of_getElem? (i := 41) rfl))) (mvT hZ (hw _ (List.mem_of_getElem? (i := 31) rfl))) (mvT hZ (hw _ (List.mem_of_getElem? (i := 42) rfl))) (by decide) (backOf (W := 0) (rmva l Z a0 hw [] f (cl.getD f 0) s1 s3 kS kT hh n0 (Nat.le_trans Z0 K.1) Oh Ssg Sth V1h V3h (by omega) hcf) hZ (hw _ (List.mem_of_getElem? (i := 42) rfl)) (hw _ (List.mem_of_getElem? (i := 31) rfl)) (by decide) (by decide)) (g := (mkF m 59 #[.val (.ref r0), .val (.ref x5), .val (.int (own_I P)), .val (.ref b11), .val (.int (own_I kk)), .val (.int (own_I f)), sl] [(.int (own_I (cl.getD f 0))), (.int (own_I f))])) rfl (by rw [hml]; rfl) (argsL := [(.int (own_I f)), (.int (own_I (cl.getD f 0)))]) (rest := []) (lenOf pdof_3 rfl) rfl (by show 2 * 0 + _ ≤ _; exact Nat.le_of_eq rfl) (hb hby dof_59) (fun _ _ => ⟨rfl, eT, (by decide : 2 + 0 ≤ _), (by decide : 13 + 0 ≤ _)⟩)
      dsimp only [Pt.U, Pt.locs, Pt.cells, Pt.slots] at X47 l47 y47 z47 st47 hQ47
      subst y47 z47
      have X47 : Stand p l e ({ frames := 2, cells := 4, slots := 21, locals := 60 } : Room) s m #[(.ref r0)] below meth c T47 _ 2 13 := X47
      obtain ⟨rfl, N47q, e47⟩ := hQ47
      have N47 : Fr n0 L47 := by rw [l47]; exact Fr.app N N47q
      refine own_go (st47) ?_
      show own_Fin p.tables e below (T47.setTop (mkF m 62 #[.val (.ref r0), .val (.ref x5), .val (.int (own_I P)), .val (.ref b11), .val (.int (own_I kk)), .val (.int (own_I f)), sl] [(.int (own_I (own_val f (cl.getD f 0))))])) _
      refine own_go (B := T47.setTop (mkF m 66 #[.val (.ref r0), .val (.ref x5), .val (.int (own_I P)), .val (.ref b11), .val (.int (own_I kk)), .val (.int (own_I f)), .val (.int (own_I (own_val f (cl.getD f 0))))] [(.int (own_I (own_val f (cl.getD f 0))))])) (fun t k => ?_) ?_
      · show Steps p.tables e below (T47.setTop (mkF m 62 #[.val (.ref r0), .val (.ref x5), .val (.int (own_I P)), .val (.ref b11), .val (.int (own_I kk)), .val (.int (own_I f)), sl] [(.int (own_I (own_val f (cl.getD f 0))))])) t
        refine XS.istore X47.here hx rfl (hb hby dof_62) rfl (l' := #[.val (.ref r0), .val (.ref x5), .val (.int (own_I P)), .val (.ref b11), .val (.int (own_I kk)), .val (.int (own_I f)), .val (.int (own_I (own_val f (cl.getD f 0))))]) (own_os6 hs) ?_
        refine XS.iload X47.here hx rfl (hb hby dof_64) rfl ?_
        exact k
      by_cases hc48 : (0 : Int32) < (own_I (own_val f (cl.getD f 0)))
      · skip
        refine own_go (B := T47.setTop (mkF m 73 #[.val (.ref r0), .val (.ref x5), .val (.int (own_I P)), .val (.ref b11), .val (.int (own_I kk)), .val (.int (own_I f)), .val (.int (own_I (own_val f (cl.getD f 0))))] [(.int ((own_I P) + (own_I (own_val f (cl.getD f 0)))))])) (fun t k => ?_) ?_
        · show Steps p.tables e below (T47.setTop (mkF m 66 #[.val (.ref r0), .val (.ref x5), .val (.int (own_I P)), .val (.ref b11), .val (.int (own_I kk)), .val (.int (own_I f)), .val (.int (own_I (own_val f (cl.getD f 0))))] [(.int (own_I (own_val f (cl.getD f 0))))])) t
          refine XS.ifNo X47.here hx rfl (hb hby dof_66) rfl ((if0 _ _).trans (tlt hc48).2.2.2) ?_
          refine XS.iloadN X47.here hx rfl (hb hby dof_69) rfl ?_
          refine XS.iload X47.here hx rfl (hb hby dof_70) rfl ?_
          refine XS.iadd X47.here hx rfl (hb hby dof_72) rfl ?_
          exact k
        refine own_go (B := T47.setTop (mkF m 73 #[.val (.ref r0), .val (.ref x5), .val (.int (own_I P)), .val (.ref b11), .val (.int (own_I kk)), .val (.int (own_I f)), .val (.int (own_I (own_val f (cl.getD f 0))))] [(.int (own_I (P + own_val f (cl.getD f 0))))])) (fun t k => (congrArg (fun z => Steps p.tables e below (T47.setTop (mkF m 73 #[.val (.ref r0), .val (.ref x5), .val (.int (own_I P)), .val (.ref b11), .val (.int (own_I kk)), .val (.int (own_I f)), .val (.int (own_I (own_val f (cl.getD f 0))))] [(.int z)])) t) (own_add _ _)).mpr k) ?_
        refine own_go (B := T47.setTop (mkF m 82 #[.val (.ref r0), .val (.ref x5), .val (.int (own_I (P + own_val f (cl.getD f 0)))), .val (.ref b11), .val (.int (own_I kk)), .val (.int (own_I f)), .val (.int (own_I (own_val f (cl.getD f 0))))] [(.int (own_I f)), (.ref x5), (.int (own_I kk)), (.int (own_I kk)), (.ref b11)])) (fun t k => ?_) ?_
        · show Steps p.tables e below (T47.setTop (mkF m 73 #[.val (.ref r0), .val (.ref x5), .val (.int (own_I P)), .val (.ref b11), .val (.int (own_I kk)), .val (.int (own_I f)), .val (.int (own_I (own_val f (cl.getD f 0))))] [(.int (own_I (P + own_val f (cl.getD f 0))))])) t
          refine XS.istoreN X47.here hx rfl (hb hby dof_73) rfl (l' := #[.val (.ref r0), .val (.ref x5), .val (.int (own_I (P + own_val f (cl.getD f 0)))), .val (.ref b11), .val (.int (own_I kk)), .val (.int (own_I f)), .val (.int (own_I (own_val f (cl.getD f 0))))]) rfl ?_
          refine XS.aloadN X47.here hx rfl (hb hby dof_74) rfl rfl ?_
          refine XS.iload X47.here hx rfl (hb hby dof_75) rfl ?_
          refine XS.iload X47.here hx rfl (hb hby dof_77) rfl ?_
          show Steps p.tables e below (T47.setTop (mkF m 79 #[.val (.ref r0), .val (.ref x5), .val (.int (own_I (P + own_val f (cl.getD f 0)))), .val (.ref b11), .val (.int (own_I kk)), .val (.int (own_I f)), .val (.int (own_I (own_val f (cl.getD f 0))))] [(.int (own_I kk)), (.int (own_I kk)), (.ref b11)])) t
          refine XS.aloadN X47.here hx rfl (hb hby dof_79) rfl rfl ?_
          refine XS.iload X47.here hx rfl (hb hby dof_80) rfl ?_
          exact k
        obtain ⟨cl49, Ar49, -, S49, M49, Ha49, G49⟩ := id Vx
        have hin49 : ¬ ((own_I f) < 0 ∨ cl49.slots.size ≤ ((own_I f)).toNatClampNeg) := inb_of S49 (own_inI (n := 7) (by omega) (by decide))
        have hat49 : cl49.slots[((own_I f)).toNatClampNeg]? = some (.int (own_I (cl.getD f 0))) := Has.at Ha49 hin49 (own_getI cl (by omega))
        refine own_go (B := T47.setTop (mkF m 83 #[.val (.ref r0), .val (.ref x5), .val (.int (own_I (P + own_val f (cl.getD f 0)))), .val (.ref b11), .val (.int (own_I kk)), .val (.int (own_I f)), .val (.int (own_I (own_val f (cl.getD f 0))))] [(.int (own_I (cl.getD f 0))), (.int (own_I kk)), (.int (own_I kk)), (.ref b11)])) (fun t k => ?_) ?_
        · exact X47.iaload hx (j := (own_I f)) (v := (.int (own_I (cl.getD f 0)))) (by first | exact Ar49.1 | (rw [e47]; exact Ar49.1)) (State.isArrayOf_alike hZ.alike Ar49.2.1) Ar49.2.2 hin49 hat49 (g := (mkF m 82 #[.val (.ref r0), .val (.ref x5), .val (.int (own_I (P + own_val f (cl.getD f 0)))), .val (.ref b11), .val (.int (own_I kk)), .val (.int (own_I f)), .val (.int (own_I (own_val f (cl.getD f 0))))] [(.int (own_I f)), (.ref x5), (.int (own_I kk)), (.int (own_I kk)), (.ref b11)])) rfl rfl (hb hby dof_82) _ k
        refine own_go (B := T47.setTop (mkF m 84 #[.val (.ref r0), .val (.ref x5), .val (.int (own_I (P + own_val f (cl.getD f 0)))), .val (.ref b11), .val (.int (own_I kk)), .val (.int (own_I f)), .val (.int (own_I (own_val f (cl.getD f 0))))] [(.int ((own_I kk) + (own_I (cl.getD f 0)))), (.int (own_I kk)), (.ref b11)])) (fun t k => ?_) ?_
        · show Steps p.tables e below (T47.setTop (mkF m 83 #[.val (.ref r0), .val (.ref x5), .val (.int (own_I (P + own_val f (cl.getD f 0)))), .val (.ref b11), .val (.int (own_I kk)), .val (.int (own_I f)), .val (.int (own_I (own_val f (cl.getD f 0))))] [(.int (own_I (cl.getD f 0))), (.int (own_I kk)), (.int (own_I kk)), (.ref b11)])) t
          refine XS.iadd X47.here hx rfl (hb hby dof_83) rfl ?_
          exact k
        refine own_go (B := T47.setTop (mkF m 84 #[.val (.ref r0), .val (.ref x5), .val (.int (own_I (P + own_val f (cl.getD f 0)))), .val (.ref b11), .val (.int (own_I kk)), .val (.int (own_I f)), .val (.int (own_I (own_val f (cl.getD f 0))))] [(.int (own_I (kk + cl.getD f 0))), (.int (own_I kk)), (.ref b11)])) (fun t k => (congrArg (fun z => Steps p.tables e below (T47.setTop (mkF m 84 #[.val (.ref r0), .val (.ref x5), .val (.int (own_I (P + own_val f (cl.getD f 0)))), .val (.ref b11), .val (.int (own_I kk)), .val (.int (own_I f)), .val (.int (own_I (own_val f (cl.getD f 0))))] [(.int z), (.int (own_I kk)), (.ref b11)])) t) (own_add _ _)).mpr k) ?_
        refine own_go (B := T47.setTop (mkF m 86 #[.val (.ref r0), .val (.ref x5), .val (.int (own_I (P + own_val f (cl.getD f 0)))), .val (.ref b11), .val (.int (own_I kk)), .val (.int (own_I f)), .val (.int (own_I (own_val f (cl.getD f 0))))] [(.int (own_I f)), (.int (own_I (kk + cl.getD f 0))), (.int (own_I kk)), (.ref b11)])) (fun t k => ?_) ?_
        · show Steps p.tables e below (T47.setTop (mkF m 84 #[.val (.ref r0), .val (.ref x5), .val (.int (own_I (P + own_val f (cl.getD f 0)))), .val (.ref b11), .val (.int (own_I kk)), .val (.int (own_I f)), .val (.int (own_I (own_val f (cl.getD f 0))))] [(.int (own_I (kk + cl.getD f 0))), (.int (own_I kk)), (.ref b11)])) t
          refine XS.iload X47.here hx rfl (hb hby dof_84) rfl ?_
          exact k
        obtain ⟨_, _, ⟨T50, L50, k50, n50⟩, -, X50, ⟨Lc50, hQ50, l50, y50, z50⟩, st50⟩ := Jvm.LawKit.callS X47 hx (y := (⟨"java/util/Arrays", "fill", "([IIII)V"⟩ : MethodName)) hown (mvT hZ (hw _ (List.mem_of_getElem? (i := 45) rfl))) (mvT hZ (hw _ (List.mem_of_getElem? (i := 46) rfl))) (mvT hZ (hw _ (List.mem_of_getElem? (i := 47) rfl))) (mvT hZ (hw _ (List.mem_of_getElem? (i := 48) rfl))) (by decide) (backOf (W := 0) (rmfi l Z a0 hw [] b11 kk (cl.getD f 0) f k11 nn us hh n0 (Nat.le_trans Z0 K.1) Vb g_b11 hus (by omega) hnn) hZ (hw _ (List.mem_of_getElem? (i := 48) rfl)) (hw _ (List.mem_of_getElem? (i := 47) rfl)) (by decide) (by decide)) (g := (mkF m 86 #[.val (.ref r0), .val (.ref x5), .val (.int (own_I (P + own_val f (cl.getD f 0)))), .val (.ref b11), .val (.int (own_I kk)), .val (.int (own_I f)), .val (.int (own_I (own_val f (cl.getD f 0))))] [(.int (own_I f)), (.int (own_I (kk + cl.getD f 0))), (.int (own_I kk)), (.ref b11)])) rfl (by rw [hml]; rfl) (argsL := [(.ref b11), (.int (own_I kk)), (.int (own_I (kk + cl.getD f 0))), (.int (own_I f))]) (rest := []) (lenOf pdof_4 rfl) rfl (by show 2 * 0 + _ ≤ _; exact Nat.le_of_eq rfl) (hb hby dof_86) (fun _ _ => ⟨rfl, e47, (by decide : 2 + 0 ≤ _), (by decide : 13 + 0 ≤ _)⟩)
        dsimp only [Pt.U, Pt.locs, Pt.cells, Pt.slots] at X50 l50 y50 z50 st50 hQ50
        subst y50 z50
        have X50 : Stand p l e ({ frames := 2, cells := 4, slots := 21, locals := 60 } : Room) s m #[(.ref r0)] below meth c T50 _ 2 13 := X50
        obtain ⟨rfl, N50q, Kq50, f50_0⟩ := hQ50
        have N50 : Fr n0 L50 := by rw [l50]; exact Fr.app N47 N50q
        have K50 : Keep h0 T50.heap [] := K.trans Kq50 (allS (Or.inr sz_b11) all0)
        refine own_go (st50) ?_
        show own_Fin p.tables e below (T50.setTop (mkF m 89 #[.val (.ref r0), .val (.ref x5), .val (.int (own_I (P + own_val f (cl.getD f 0)))), .val (.ref b11), .val (.int (own_I kk)), .val (.int (own_I f)), .val (.int (own_I (own_val f (cl.getD f 0))))] [])) _
        refine own_go (B := T50.setTop (mkF m 94 #[.val (.ref r0), .val (.ref x5), .val (.int (own_I (P + own_val f (cl.getD f 0)))), .val (.ref b11), .val (.int (own_I kk)), .val (.int (own_I f)), .val (.int (own_I (own_val f (cl.getD f 0))))] [(.int (own_I f)), (.ref x5), (.int (own_I kk))])) (fun t k => ?_) ?_
        · show Steps p.tables e below (T50.setTop (mkF m 89 #[.val (.ref r0), .val (.ref x5), .val (.int (own_I (P + own_val f (cl.getD f 0)))), .val (.ref b11), .val (.int (own_I kk)), .val (.int (own_I f)), .val (.int (own_I (own_val f (cl.getD f 0))))] [])) t
          refine XS.iload X50.here hx rfl (hb hby dof_89) rfl ?_
          refine XS.aloadN X50.here hx rfl (hb hby dof_91) rfl rfl ?_
          refine XS.iload X50.here hx rfl (hb hby dof_92) rfl ?_
          exact k
        have f52 := (Vx.keep Kq50 (ninS ne17 nin0))
        obtain ⟨cl51, Ar51, -, S51, M51, Ha51, G51⟩ := id f52
        have hin51 : ¬ ((own_I f) < 0 ∨ cl51.slots.size ≤ ((own_I f)).toNatClampNeg) := inb_of S51 (own_inI (n := 7) (by omega) (by decide))
        have hat51 : cl51.slots[((own_I f)).toNatClampNeg]? = some (.int (own_I (cl.getD f 0))) := Has.at Ha51 hin51 (own_getI cl (by omega))
        refine own_go (B := T50.setTop (mkF m 95 #[.val (.ref r0), .val (.ref x5), .val (.int (own_I (P + own_val f (cl.getD f 0)))), .val (.ref b11), .val (.int (own_I kk)), .val (.int (own_I f)), .val (.int (own_I (own_val f (cl.getD f 0))))] [(.int (own_I (cl.getD f 0))), (.int (own_I kk))])) (fun t k => ?_) ?_
        · exact X50.iaload hx (j := (own_I f)) (v := (.int (own_I (cl.getD f 0)))) (by first | exact Ar51.1 | (rw [rfl]; exact Ar51.1)) (State.isArrayOf_alike hZ.alike Ar51.2.1) Ar51.2.2 hin51 hat51 (g := (mkF m 94 #[.val (.ref r0), .val (.ref x5), .val (.int (own_I (P + own_val f (cl.getD f 0)))), .val (.ref b11), .val (.int (own_I kk)), .val (.int (own_I f)), .val (.int (own_I (own_val f (cl.getD f 0))))] [(.int (own_I f)), (.ref x5), (.int (own_I kk))])) rfl rfl (hb hby dof_94) _ k
        refine own_go (B := T50.setTop (mkF m 96 #[.val (.ref r0), .val (.ref x5), .val (.int (own_I (P + own_val f (cl.getD f 0)))), .val (.ref b11), .val (.int (own_I kk)), .val (.int (own_I f)), .val (.int (own_I (own_val f (cl.getD f 0))))] [(.int ((own_I kk) + (own_I (cl.getD f 0))))])) (fun t k => ?_) ?_
        · show Steps p.tables e below (T50.setTop (mkF m 95 #[.val (.ref r0), .val (.ref x5), .val (.int (own_I (P + own_val f (cl.getD f 0)))), .val (.ref b11), .val (.int (own_I kk)), .val (.int (own_I f)), .val (.int (own_I (own_val f (cl.getD f 0))))] [(.int (own_I (cl.getD f 0))), (.int (own_I kk))])) t
          refine XS.iadd X50.here hx rfl (hb hby dof_95) rfl ?_
          exact k
        refine own_go (B := T50.setTop (mkF m 96 #[.val (.ref r0), .val (.ref x5), .val (.int (own_I (P + own_val f (cl.getD f 0)))), .val (.ref b11), .val (.int (own_I kk)), .val (.int (own_I f)), .val (.int (own_I (own_val f (cl.getD f 0))))] [(.int (own_I (kk + cl.getD f 0)))])) (fun t k => (congrArg (fun z => Steps p.tables e below (T50.setTop (mkF m 96 #[.val (.ref r0), .val (.ref x5), .val (.int (own_I (P + own_val f (cl.getD f 0)))), .val (.ref b11), .val (.int (own_I kk)), .val (.int (own_I f)), .val (.int (own_I (own_val f (cl.getD f 0))))] [(.int z)])) t) (own_add _ _)).mpr k) ?_
        refine own_go (B := T50.setTop (mkF m 46 #[.val (.ref r0), .val (.ref x5), .val (.int (own_I (P + own_val f (cl.getD f 0)))), .val (.ref b11), .val (.int (own_I (kk + cl.getD f 0))), .val (.int ((own_I f) + (1 : Int32))), .val (.int (own_I (own_val f (cl.getD f 0))))] [])) (fun t k => ?_) ?_
        · show Steps p.tables e below (T50.setTop (mkF m 96 #[.val (.ref r0), .val (.ref x5), .val (.int (own_I (P + own_val f (cl.getD f 0)))), .val (.ref b11), .val (.int (own_I kk)), .val (.int (own_I f)), .val (.int (own_I (own_val f (cl.getD f 0))))] [(.int (own_I (kk + cl.getD f 0)))])) t
          refine XS.istore X50.here hx rfl (hb hby dof_96) rfl (l' := #[.val (.ref r0), .val (.ref x5), .val (.int (own_I (P + own_val f (cl.getD f 0)))), .val (.ref b11), .val (.int (own_I (kk + cl.getD f 0))), .val (.int (own_I f)), .val (.int (own_I (own_val f (cl.getD f 0))))]) rfl ?_
          refine XS.iinc X50.here hx rfl (hb hby dof_98) rfl (l' := #[.val (.ref r0), .val (.ref x5), .val (.int (own_I (P + own_val f (cl.getD f 0)))), .val (.ref b11), .val (.int (own_I (kk + cl.getD f 0))), .val (.int ((own_I f) + (1 : Int32))), .val (.int (own_I (own_val f (cl.getD f 0))))]) rfl ?_
          refine XS.goto X50.here hx rfl (pc0 := 101) (pc' := 46) rfl (hb hby dof_101) (by decide) (by decide) ?_
          exact k
        refine own_go (B := T50.setTop (mkF m 46 #[.val (.ref r0), .val (.ref x5), .val (.int (own_I (P + own_val f (cl.getD f 0)))), .val (.ref b11), .val (.int (own_I (kk + cl.getD f 0))), .val (.int (own_I (f + 1))), .val (.int (own_I (own_val f (cl.getD f 0))))] [])) (fun t k => (congrArg (fun z => Steps p.tables e below (T50.setTop (mkF m 46 #[.val (.ref r0), .val (.ref x5), .val (.int (own_I (P + own_val f (cl.getD f 0)))), .val (.ref b11), .val (.int (own_I (kk + cl.getD f 0))), .val (.int z), .val (.int (own_I (own_val f (cl.getD f 0))))] [])) t) (own_add f 1)).mpr k) ?_
        have f53 := (Eb.keep Kq50)
        exact ih (f + 1) (P + own_val f (cl.getD f 0)) (kk + cl.getD f 0) (own_fill us kk (cl.getD f 0) f) _ _ _ _ (One.val rfl) X50 rfl N50 K50 f52 f50_0 f53 (by rw [own_fillL (by omega)]; exact hus) (by omega) (by omega) (by have q := hkr; rw [own_remU] at q; omega) (by rw [← ha]; exact (own_ofT ((own_pv (by omega) hcf).mp hc48)).symm)
      · skip
        refine own_go (B := T47.setTop (mkF m 46 #[.val (.ref r0), .val (.ref x5), .val (.int (own_I P)), .val (.ref b11), .val (.int (own_I kk)), .val (.int ((own_I f) + (1 : Int32))), .val (.int (own_I (own_val f (cl.getD f 0))))] [])) (fun t k => ?_) ?_
        · show Steps p.tables e below (T47.setTop (mkF m 66 #[.val (.ref r0), .val (.ref x5), .val (.int (own_I P)), .val (.ref b11), .val (.int (own_I kk)), .val (.int (own_I f)), .val (.int (own_I (own_val f (cl.getD f 0))))] [(.int (own_I (own_val f (cl.getD f 0))))])) t
          refine XS.ifYes X47.here hx rfl (pc0 := 66) (pc' := 98) rfl (hb hby dof_66) rfl ((if0 _ _).trans (flt hc48).2.2.2) (by decide) (by decide) ?_
          refine XS.iinc X47.here hx rfl (hb hby dof_98) rfl (l' := #[.val (.ref r0), .val (.ref x5), .val (.int (own_I P)), .val (.ref b11), .val (.int (own_I kk)), .val (.int ((own_I f) + (1 : Int32))), .val (.int (own_I (own_val f (cl.getD f 0))))]) rfl ?_
          refine XS.goto X47.here hx rfl (pc0 := 101) (pc' := 46) rfl (hb hby dof_101) (by decide) (by decide) ?_
          exact k
        refine own_go (B := T47.setTop (mkF m 46 #[.val (.ref r0), .val (.ref x5), .val (.int (own_I P)), .val (.ref b11), .val (.int (own_I kk)), .val (.int (own_I (f + 1))), .val (.int (own_I (own_val f (cl.getD f 0))))] [])) (fun t k => (congrArg (fun z => Steps p.tables e below (T47.setTop (mkF m 46 #[.val (.ref r0), .val (.ref x5), .val (.int (own_I P)), .val (.ref b11), .val (.int (own_I kk)), .val (.int z), .val (.int (own_I (own_val f (cl.getD f 0))))] [])) t) (own_add f 1)).mpr k) ?_
        exact ih (f + 1) P kk us _ _ _ _ (One.val rfl) X47 e47 N47 K Vx Vb Eb hus (by omega) (by omega) (by have q := hkr; rw [own_remU] at q; omega) (by rw [← ha]; exact (own_ofF (fun q => hc48 ((own_pv (by omega) hcf).mpr q))).symm)
  have f54 := (V5.ext E11)
  exact loop 6 1 0 0 (List.replicate nn 0) _ _ _ _ One.u X11 e11 N5 K11 f54 V_b11 EA11 (by simp) (by omega) (by omega) (by omega) rfl
theorem dtn_0 : decode prog_53_method_8_code 0 = .ok (.aload_n 0, 1) := by decide +kernel
theorem dtn_1 : decode prog_53_method_8_code 1 = .ok (.getfield 15, 3) := by decide +kernel
theorem dtn_4 : decode prog_53_method_8_code 4 = .ok (.ifnonnull 9, 3) := by decide +kernel
theorem dtn_7 : decode prog_53_method_8_code 7 = .ok (.iconst 0, 1) := by decide +kernel
theorem dtn_8 : decode prog_53_method_8_code 8 = .ok (.newarray .int, 2) := by decide +kernel
theorem dtn_10 : decode prog_53_method_8_code 10 = .ok (.goto 13, 3) := by decide +kernel
theorem dtn_23 : decode prog_53_method_8_code 23 = .ok (.areturn, 1) := by decide +kernel
theorem pntn : plainName "com/example/rollhaus/rollhaus/zehntausend/Turn" = true := by first | (simp [plainName, overriddenIn]; done) | decide +kernel
theorem eftn (m : MethodId) (z0 : Addr) : entryFrame m #[(.ref z0)] 1 = mkF m 0 #[.val (.ref z0)] [] := by first | (simp [entryFrame, mkF, argsToLocals, Value.category]; done) | rfl
def Qtn (Z : State) (r0 : Addr) (h0 : Heap) (n0 : Nat) (v : Option Value) (h : Heap) (L : List Loc) : Prop := ∃ (x : Addr) (kx : ClassId), v = some (.ref x) ∧ Fr n0 L ∧ Keep h0 h [] ∧ h0.size ≤ x ∧ Exa Z h x "[I" ∧ Arv Z h x kx .int (0 : Int32) [] (.int (0 : Int32))
set_option maxRecDepth 65536 in
set_option maxHeartbeats 40000000 in
theorem rmtn (l : Launch) (Z : State) (a0 : Array Value) (hw : ∀ d ∈ tables_1, d.before a0 Z = true) (ws : List Jvm.Cond) (r0 : Addr) (h0 : Heap) (n0 : Nat) (Z0 : n0 ≤ h0.size) (F0 : Fld Z h0 r0 "com/example/rollhaus/rollhaus/zehntausend/Turn" "thrown" "[I" .null) :
    MetFree l (⟨"com/example/rollhaus/rollhaus/zehntausend/Turn", "thrown", "()[I"⟩ : MethodName) (head1 (Jvm.Cond.code (⟨"com/example/rollhaus/rollhaus/zehntausend/Turn", "thrown", "()[I"⟩ : MethodName) prog_53_method_8_code 1 (some (.array .int)) :: ws) ({ frames := 0, cells := 1, slots := 0, locals := 0 } : Room)) (fun a U => a = #[(.ref r0)] ∧ Z.Warmed39 U.vm ∧ U.heap = h0) (fun _ _ _ _ _ => True) (fun _ U o U' => ∃ v L, o = .returned v ∧ Qtn Z r0 h0 n0 v U'.heap L ∧ FrameEnd U o U' L ({ frames := 0, cells := 1, slots := 0, locals := 0 } : Room).cells ({ frames := 0, cells := 1, slots := 0, locals := 0 } : Room).slots) := by
  refine MetFree.of_bodySF (plainFor_of_name pntn) hisR ?_
  intro p e s m args below meth c s₁ Bd hml0 hP hK
  obtain ⟨rfl, hZ, hh⟩ := hP
  have hx := Bd.exec
  have hby := Bd.bytes
  have hml : c.maxLocals = 1 := hml0
  have hown : s.vm.findClass "com/example/rollhaus/rollhaus/zehntausend/Turn" = some m.cls := findClass_of_methodNamed Bd.named
  have hnm := (name_of_methodNamed Bd.named Bd.method).1
  have X0 : Stand p l e ({ frames := 0, cells := 1, slots := 0, locals := 0 } : Room) s m #[(.ref r0)] below meth c s₁ [] 0 0 := Stand.of_body Bd
  have e0 : s₁.heap = h0 := by rw [← hh, Bd.state]; rfl
  have N0 := Fr.nil n0
  have K0 : Keep h0 h0 [] := Keep.refl h0 _
  refine own_in ?_
  refine own_go (B := s₁.setTop (mkF m 0 #[.val (.ref r0)] [])) (fun t k => castTop (eftn m r0) k) ?_
  refine own_go (B := s₁.setTop (mkF m 1 #[.val (.ref r0)] [(.ref r0)])) (fun t k => ?_) ?_
  · show Steps p.tables e below (s₁.setTop (mkF m 0 #[.val (.ref r0)] [])) t
    refine XS.aloadN X0.here hx rfl (hb hby dtn_0) rfl rfl ?_
    exact k
  obtain ⟨T1, X1, e1, st1⟩ := getF X0 hx hZ hown (host := "") (Or.inl (hw _ (List.mem_of_getElem? (i := 22) rfl))) Via.refl e0 F0 (g := (mkF m 1 #[.val (.ref r0)] [(.ref r0)])) rfl rfl (hb hby dtn_1)
  refine own_go st1 ?_
  show own_Fin p.tables e below (T1.setTop (mkF m 4 #[.val (.ref r0)] [.null])) _
  refine own_go (B := T1.setTop (mkF m 8 #[.val (.ref r0)] [(.int (0 : Int32))])) (fun t k => ?_) ?_
  · show Steps p.tables e below (T1.setTop (mkF m 4 #[.val (.ref r0)] [.null])) t
    refine XS.ifnonnullNo X1.here hx rfl (hb hby dtn_4) rfl ?_
    refine XS.iconst X1.here hx rfl (hb hby dtn_7) ?_
    exact k
  obtain ⟨T2, h2, k2, X2, e2, E2, A2, EA2, st2⟩ := newPE X1 hx hZ (hw _ (List.mem_of_getElem? (i := 0) rfl)) e1 (g := (mkF m 8 #[.val (.ref r0)] [(.int (0 : Int32))])) rfl (hb hby dtn_8) rfl (by decide) (cap := 0) (by decide) (by decide) (by decide) (by decide) (ad := "[I") (by decide)
  obtain ⟨b2, g2⟩ : ∃ z, z = h0.size := ⟨_, rfl⟩
  rw [← g2] at A2 EA2 st2
  have g_b2 : n0 ≤ b2 := by rw [g2]; exact Z0
  have sz_b2 : h0.size ≤ b2 := by rw [g2]; exact K0.1
  have ne3 : r0 ≠ b2 := Nat.ne_of_lt (by rw [g2]; exact F0.lt)
  have K2 : Keep h0 h2 [] := K0.ext E2
  have X2 : Stand p l e ({ frames := 0, cells := 1, slots := 0, locals := 0 } : Room) s m #[(.ref r0)] below meth c T2 _ 1 0 := X2
  have V_b2 : Arv Z h2 b2 k2 .int (0 : Int32) [] (.int (0 : Int32)) := (Arv.new A2 (by decide)).pad (pad_rep [] (.int (0 : Int32)) 0)
  refine own_go st2 ?_
  show own_Fin p.tables e below (T2.setTop (mkF m 10 #[.val (.ref r0)] [(.ref b2)])) _
  refine own_go (B := T2.setTop (mkF m 23 #[.val (.ref r0)] [(.ref b2)])) (fun t k => ?_) ?_
  · show Steps p.tables e below (T2.setTop (mkF m 10 #[.val (.ref r0)] [(.ref b2)])) t
    refine XS.goto X2.here hx rfl (pc0 := 10) (pc' := 23) rfl (hb hby dtn_10) (by decide) (by decide) ?_
    exact k
  obtain ⟨fs, hr, hrun, hended, hW, hsame⟩ := X2.leave (v := some (.ref b2)) (fun h => by rw [Bd.returns] at h; cases h)
  refine ⟨_, _, ?_, hrun, hended, _, _, rfl, ?_, ⟨_, rfl⟩, hW, hsame.mono (by decide) (by decide)⟩
  · exact retOut X2 hx (t := (.array .int)) Bd.returns rfl (Or.inr (Or.inr (Or.inr (Or.inr ⟨rfl, rfl, rfl⟩)))) (hb hby dtn_23) hr
  · show Qtn Z r0 h0 n0 _ T2.heap _
    rw [e2]
    exact ⟨b2, k2, rfl, N0, K2, sz_b2, EA2, V_b2⟩
theorem dtc_0 : decode prog_53_method_8_code 0 = .ok (.aload_n 0, 1) := by decide +kernel
theorem dtc_1 : decode prog_53_method_8_code 1 = .ok (.getfield 15, 3) := by decide +kernel
theorem dtc_4 : decode prog_53_method_8_code 4 = .ok (.ifnonnull 9, 3) := by decide +kernel
theorem dtc_13 : decode prog_53_method_8_code 13 = .ok (.aload_n 0, 1) := by decide +kernel
theorem dtc_14 : decode prog_53_method_8_code 14 = .ok (.getfield 15, 3) := by decide +kernel
theorem dtc_17 : decode prog_53_method_8_code 17 = .ok (.invokevirtual 44, 3) := by decide +kernel
theorem dtc_20 : decode prog_53_method_8_code 20 = .ok (.checkcast 45, 3) := by decide +kernel
theorem dtc_23 : decode prog_53_method_8_code 23 = .ok (.areturn, 1) := by decide +kernel
theorem pntc : plainName "com/example/rollhaus/rollhaus/zehntausend/Turn" = true := by first | (simp [plainName, overriddenIn]; done) | decide +kernel
theorem eftc (m : MethodId) (z0 : Addr) : entryFrame m #[(.ref z0)] 1 = mkF m 0 #[.val (.ref z0)] [] := by first | (simp [entryFrame, mkF, argsToLocals, Value.category]; done) | rfl
def Qtc (Z : State) (r0 : Addr) (u : Addr) (ku : ClassId) (us : List Nat) (h0 : Heap) (n0 : Nat) (v : Option Value) (h : Heap) (L : List Loc) : Prop := ∃ (x : Addr) (kx : ClassId), v = some (.ref x) ∧ Fr n0 L ∧ Keep h0 h [] ∧ h0.size ≤ x ∧ Exa Z h x "[I" ∧ Arv Z h x kx .int (6 : Int32) (us.map own_V) (.int (0 : Int32))
set_option maxRecDepth 65536 in
set_option maxHeartbeats 40000000 in
theorem rmtc (l : Launch) (Z : State) (a0 : Array Value) (hw : ∀ d ∈ tables_1, d.before a0 Z = true) (ws : List Jvm.Cond) (r0 : Addr) (u : Addr) (ku : ClassId) (us : List Nat) (h0 : Heap) (n0 : Nat) (Z0 : n0 ≤ h0.size) (F0 : Fld Z h0 r0 "com/example/rollhaus/rollhaus/zehntausend/Turn" "thrown" "[I" (.ref u)) (Vu : Arv Z h0 u ku .int (6 : Int32) (us.map own_V) (.int (0 : Int32))) (Eu : Exa Z h0 u "[I") :
    MetFree l (⟨"com/example/rollhaus/rollhaus/zehntausend/Turn", "thrown", "()[I"⟩ : MethodName) (head1 (Jvm.Cond.code (⟨"com/example/rollhaus/rollhaus/zehntausend/Turn", "thrown", "()[I"⟩ : MethodName) prog_53_method_8_code 1 (some (.array .int)) :: ws) ({ frames := 1, cells := 1, slots := 6, locals := 20 } : Room)) (fun a U => a = #[(.ref r0)] ∧ Z.Warmed39 U.vm ∧ U.heap = h0) (fun _ _ _ _ _ => True) (fun _ U o U' => ∃ v L, o = .returned v ∧ Qtc Z r0 u ku us h0 n0 v U'.heap L ∧ FrameEnd U o U' L ({ frames := 1, cells := 1, slots := 6, locals := 20 } : Room).cells ({ frames := 1, cells := 1, slots := 6, locals := 20 } : Room).slots) := by
  refine MetFree.of_bodySF (plainFor_of_name pntc) hisR ?_
  intro p e s m args below meth c s₁ Bd hml0 hP hK
  obtain ⟨rfl, hZ, hh⟩ := hP
  have hx := Bd.exec
  have hby := Bd.bytes
  have hml : c.maxLocals = 1 := hml0
  have hown : s.vm.findClass "com/example/rollhaus/rollhaus/zehntausend/Turn" = some m.cls := findClass_of_methodNamed Bd.named
  have hnm := (name_of_methodNamed Bd.named Bd.method).1
  have X0 : Stand p l e ({ frames := 1, cells := 1, slots := 6, locals := 20 } : Room) s m #[(.ref r0)] below meth c s₁ [] 0 0 := Stand.of_body Bd
  have e0 : s₁.heap = h0 := by rw [← hh, Bd.state]; rfl
  have N0 := Fr.nil n0
  have K0 : Keep h0 h0 [] := Keep.refl h0 _
  refine own_in ?_
  refine own_go (B := s₁.setTop (mkF m 0 #[.val (.ref r0)] [])) (fun t k => castTop (eftc m r0) k) ?_
  refine own_go (B := s₁.setTop (mkF m 1 #[.val (.ref r0)] [(.ref r0)])) (fun t k => ?_) ?_
  · show Steps p.tables e below (s₁.setTop (mkF m 0 #[.val (.ref r0)] [])) t
    refine XS.aloadN X0.here hx rfl (hb hby dtc_0) rfl rfl ?_
    exact k
  obtain ⟨T1, X1, e1, st1⟩ := getF X0 hx hZ hown (host := "") (Or.inl (hw _ (List.mem_of_getElem? (i := 22) rfl))) Via.refl e0 F0 (g := (mkF m 1 #[.val (.ref r0)] [(.ref r0)])) rfl rfl (hb hby dtc_1)
  refine own_go st1 ?_
  show own_Fin p.tables e below (T1.setTop (mkF m 4 #[.val (.ref r0)] [(.ref u)])) _
  refine own_go (B := T1.setTop (mkF m 14 #[.val (.ref r0)] [(.ref r0)])) (fun t k => ?_) ?_
  · show Steps p.tables e below (T1.setTop (mkF m 4 #[.val (.ref r0)] [(.ref u)])) t
    refine XS.ifnonnullYes X1.here hx rfl (pc0 := 4) (pc' := 13) rfl (hb hby dtc_4) rfl (by decide) (by decide) ?_
    refine XS.aloadN X1.here hx rfl (hb hby dtc_13) rfl rfl ?_
    exact k
  obtain ⟨T2, X2, e2, st2⟩ := getF X1 hx hZ hown (host := "") (Or.inl (hw _ (List.mem_of_getElem? (i := 22) rfl))) Via.refl e1 F0 (g := (mkF m 14 #[.val (.ref r0)] [(.ref r0)])) rfl rfl (hb hby dtc_14)
  refine own_go st2 ?_
  show own_Fin p.tables e below (T2.setTop (mkF m 17 #[.val (.ref r0)] [(.ref u)])) _
  obtain ⟨T3, h3, X3, e3, E3, V_b3, EA3, st3⟩ := cloneH X2 hx hZ hown (hw _ (List.mem_of_getElem? (i := 73) rfl)) (hw _ (List.mem_of_getElem? (i := 74) rfl)) (hw _ (List.mem_of_getElem? (i := 78) rfl)) (hw _ (List.mem_of_getElem? (i := 76) rfl)) (hw _ (List.mem_of_getElem? (i := 77) rfl)) (hw _ (List.mem_of_getElem? (i := 79) rfl)) e2 Vu.arh Eu (g := (mkF m 17 #[.val (.ref r0)] [(.ref u)])) rfl (by rw [hml]; rfl) rfl (hb hby dtc_17) (by decide) (W := 0) (cap := 6) (by show 2 * 0 + _ ≤ _; exact Nat.le_of_eq rfl) (by decide) (by decide) (by decide) (by decide)
  obtain ⟨b3, g3⟩ : ∃ z, z = h0.size := ⟨_, rfl⟩
  rw [← g3] at V_b3 EA3 st3
  have g_b3 : n0 ≤ b3 := by rw [g3]; exact Z0
  have sz_b3 : h0.size ≤ b3 := by rw [g3]; exact K0.1
  have ne4 : r0 ≠ b3 := Nat.ne_of_lt (by rw [g3]; exact F0.lt)
  have ne5 : u ≠ b3 := Nat.ne_of_lt (by rw [g3]; exact Vu.lt)
  have K3 : Keep h0 h3 [] := K0.ext E3
  have X3 : Stand p l e ({ frames := 1, cells := 1, slots := 6, locals := 20 } : Room) s m #[(.ref r0)] below meth c T3 _ 1 6 := X3
  have V3 : Arv Z h3 b3 ku .int (6 : Int32) (us.map own_V) (.int (0 : Int32)) := V_b3
  refine own_go st3 ?_
  show own_Fin p.tables e below (T3.setTop (mkF m 20 #[.val (.ref r0)] [(.ref b3)])) _
  obtain ⟨T6, X6, e6, st6⟩ := castY X3 hx hZ hown (hw _ (List.mem_of_getElem? (i := 80) rfl)) e3 (Ins.self EA3) (g := (mkF m 20 #[.val (.ref r0)] [(.ref b3)])) rfl rfl (hb hby dtc_20)
  refine own_go st6 ?_
  show own_Fin p.tables e below (T6.setTop (mkF m 23 #[.val (.ref r0)] [(.ref b3)])) _
  obtain ⟨fs, hr, hrun, hended, hW, hsame⟩ := X6.leave (v := some (.ref b3)) (fun h => by rw [Bd.returns] at h; cases h)
  refine ⟨_, _, ?_, hrun, hended, _, _, rfl, ?_, ⟨_, rfl⟩, hW, hsame.mono (by decide) (by decide)⟩
  · exact retOut X6 hx (t := (.array .int)) Bd.returns rfl (Or.inr (Or.inr (Or.inr (Or.inr ⟨rfl, rfl, rfl⟩)))) (hb hby dtc_23) hr
  · show Qtc Z r0 u ku us h0 n0 _ T6.heap _
    rw [e6]
    exact ⟨b3, ku, rfl, N0, K3, sz_b3, EA3, V3⟩
theorem dsp_0 : decode prog_52_method_4_code 0 = .ok (.aload_n 0, 1) := by decide +kernel
theorem dsp_1 : decode prog_52_method_4_code 1 = .ok (.getfield 7, 3) := by decide +kernel
theorem dsp_4 : decode prog_52_method_4_code 4 = .ok (.ireturn, 1) := by decide +kernel
theorem pnsp : plainName "com/example/rollhaus/rollhaus/zehntausend/Scoring" = true := by first | (simp [plainName, overriddenIn]; done) | decide +kernel
theorem efsp (m : MethodId) (z0 : Addr) : entryFrame m #[(.ref z0)] 1 = mkF m 0 #[.val (.ref z0)] [] := by first | (simp [entryFrame, mkF, argsToLocals, Value.category]; done) | rfl
def Qsp (Z : State) (r0 : Addr) (P : Nat) (h0 : Heap) (n0 : Nat) (v : Option Value) (h : Heap) (L : List Loc) : Prop := v = some (.int (own_I P)) ∧ Fr n0 L ∧ h = h0
set_option maxRecDepth 65536 in
set_option maxHeartbeats 40000000 in
theorem rmsp (l : Launch) (Z : State) (a0 : Array Value) (hw : ∀ d ∈ tables_1, d.before a0 Z = true) (ws : List Jvm.Cond) (r0 : Addr) (P : Nat) (h0 : Heap) (n0 : Nat) (Z0 : n0 ≤ h0.size) (F0 : Fld Z h0 r0 "com/example/rollhaus/rollhaus/zehntausend/Scoring" "points" "I" (.int (own_I P))) :
    MetFree l (⟨"com/example/rollhaus/rollhaus/zehntausend/Scoring", "points", "()I"⟩ : MethodName) (head1 (Jvm.Cond.code (⟨"com/example/rollhaus/rollhaus/zehntausend/Scoring", "points", "()I"⟩ : MethodName) prog_52_method_4_code 1 (some .int) :: ws) ({ frames := 0, cells := 0, slots := 0, locals := 0 } : Room)) (fun a U => a = #[(.ref r0)] ∧ Z.Warmed39 U.vm ∧ U.heap = h0) (fun _ _ _ _ _ => True) (fun _ U o U' => ∃ v L, o = .returned v ∧ Qsp Z r0 P h0 n0 v U'.heap L ∧ FrameEnd U o U' L ({ frames := 0, cells := 0, slots := 0, locals := 0 } : Room).cells ({ frames := 0, cells := 0, slots := 0, locals := 0 } : Room).slots) := by
  refine MetFree.of_bodySF (plainFor_of_name pnsp) hisR ?_
  intro p e s m args below meth c s₁ Bd hml0 hP hK
  obtain ⟨rfl, hZ, hh⟩ := hP
  have hx := Bd.exec
  have hby := Bd.bytes
  have hml : c.maxLocals = 1 := hml0
  have hown : s.vm.findClass "com/example/rollhaus/rollhaus/zehntausend/Scoring" = some m.cls := findClass_of_methodNamed Bd.named
  have hnm := (name_of_methodNamed Bd.named Bd.method).1
  have X0 : Stand p l e ({ frames := 0, cells := 0, slots := 0, locals := 0 } : Room) s m #[(.ref r0)] below meth c s₁ [] 0 0 := Stand.of_body Bd
  have e0 : s₁.heap = h0 := by rw [← hh, Bd.state]; rfl
  have N0 := Fr.nil n0
  have K0 : Keep h0 h0 [] := Keep.refl h0 _
  refine own_in ?_
  refine own_go (B := s₁.setTop (mkF m 0 #[.val (.ref r0)] [])) (fun t k => castTop (efsp m r0) k) ?_
  refine own_go (B := s₁.setTop (mkF m 1 #[.val (.ref r0)] [(.ref r0)])) (fun t k => ?_) ?_
  · show Steps p.tables e below (s₁.setTop (mkF m 0 #[.val (.ref r0)] [])) t
    refine XS.aloadN X0.here hx rfl (hb hby dsp_0) rfl rfl ?_
    exact k
  obtain ⟨T1, X1, e1, st1⟩ := getF X0 hx hZ hown (host := "") (Or.inl (hw _ (List.mem_of_getElem? (i := 69) rfl))) Via.refl e0 F0 (g := (mkF m 1 #[.val (.ref r0)] [(.ref r0)])) rfl rfl (hb hby dsp_1)
  refine own_go st1 ?_
  show own_Fin p.tables e below (T1.setTop (mkF m 4 #[.val (.ref r0)] [(.int (own_I P))])) _
  obtain ⟨fs, hr, hrun, hended, hW, hsame⟩ := X1.leave (v := some (.int (own_I P))) (fun h => by rw [Bd.returns] at h; cases h)
  refine ⟨_, _, ?_, hrun, hended, _, _, rfl, ?_, ⟨_, rfl⟩, hW, hsame.mono (by decide) (by decide)⟩
  · exact retOut X1 hx (t := .int) Bd.returns rfl (Or.inl ⟨rfl, by simp, _, rfl⟩) (hb hby dsp_4) hr
  · show Qsp Z r0 P h0 n0 _ T1.heap _
    rw [e1]
    exact ⟨rfl, N0, rfl⟩
theorem dsd_0 : decode prog_52_method_5_code 0 = .ok (.aload_n 0, 1) := by decide +kernel
theorem dsd_1 : decode prog_52_method_5_code 1 = .ok (.getfield 13, 3) := by decide +kernel
theorem dsd_4 : decode prog_52_method_5_code 4 = .ok (.invokevirtual 57, 3) := by decide +kernel
theorem dsd_7 : decode prog_52_method_5_code 7 = .ok (.checkcast 58, 3) := by decide +kernel
theorem dsd_10 : decode prog_52_method_5_code 10 = .ok (.areturn, 1) := by decide +kernel
theorem pnsd : plainName "com/example/rollhaus/rollhaus/zehntausend/Scoring" = true := by first | (simp [plainName, overriddenIn]; done) | decide +kernel
theorem efsd (m : MethodId) (z0 : Addr) : entryFrame m #[(.ref z0)] 1 = mkF m 0 #[.val (.ref z0)] [] := by first | (simp [entryFrame, mkF, argsToLocals, Value.category]; done) | rfl
def Qsd (Z : State) (r0 : Addr) (u : Addr) (ku : ClassId) (nn : Nat) (us : List Nat) (h0 : Heap) (n0 : Nat) (v : Option Value) (h : Heap) (L : List Loc) : Prop := ∃ (x : Addr) (kx : ClassId), v = some (.ref x) ∧ Fr n0 L ∧ Keep h0 h [] ∧ h0.size ≤ x ∧ Exa Z h x "[I" ∧ Arv Z h x kx .int (own_I nn) (us.map own_V) (.int (0 : Int32))
set_option maxRecDepth 65536 in
set_option maxHeartbeats 40000000 in
theorem rmsd (l : Launch) (Z : State) (a0 : Array Value) (hw : ∀ d ∈ tables_1, d.before a0 Z = true) (ws : List Jvm.Cond) (r0 : Addr) (u : Addr) (ku : ClassId) (nn : Nat) (us : List Nat) (h0 : Heap) (n0 : Nat) (Z0 : n0 ≤ h0.size) (F0 : Fld Z h0 r0 "com/example/rollhaus/rollhaus/zehntausend/Scoring" "dice" "[I" (.ref u)) (Vu : Arv Z h0 u ku .int (own_I nn) (us.map own_V) (.int (0 : Int32))) (Eu : Exa Z h0 u "[I") (hnn : nn ≤ 6) :
    MetFree l (⟨"com/example/rollhaus/rollhaus/zehntausend/Scoring", "dice", "()[I"⟩ : MethodName) (head1 (Jvm.Cond.code (⟨"com/example/rollhaus/rollhaus/zehntausend/Scoring", "dice", "()[I"⟩ : MethodName) prog_52_method_5_code 1 (some (.array .int)) :: ws) ({ frames := 1, cells := 1, slots := 6, locals := 20 } : Room)) (fun a U => a = #[(.ref r0)] ∧ Z.Warmed39 U.vm ∧ U.heap = h0) (fun _ _ _ _ _ => True) (fun _ U o U' => ∃ v L, o = .returned v ∧ Qsd Z r0 u ku nn us h0 n0 v U'.heap L ∧ FrameEnd U o U' L ({ frames := 1, cells := 1, slots := 6, locals := 20 } : Room).cells ({ frames := 1, cells := 1, slots := 6, locals := 20 } : Room).slots) := by
  refine MetFree.of_bodySF (plainFor_of_name pnsd) hisR ?_
  intro p e s m args below meth c s₁ Bd hml0 hP hK
  obtain ⟨rfl, hZ, hh⟩ := hP
  have hx := Bd.exec
  have hby := Bd.bytes
  have hml : c.maxLocals = 1 := hml0
  have hown : s.vm.findClass "com/example/rollhaus/rollhaus/zehntausend/Scoring" = some m.cls := findClass_of_methodNamed Bd.named
  have hnm := (name_of_methodNamed Bd.named Bd.method).1
  have X0 : Stand p l e ({ frames := 1, cells := 1, slots := 6, locals := 20 } : Room) s m #[(.ref r0)] below meth c s₁ [] 0 0 := Stand.of_body Bd
  have e0 : s₁.heap = h0 := by rw [← hh, Bd.state]; rfl
  have N0 := Fr.nil n0
  have K0 : Keep h0 h0 [] := Keep.refl h0 _
  refine own_in ?_
  refine own_go (B := s₁.setTop (mkF m 0 #[.val (.ref r0)] [])) (fun t k => castTop (efsd m r0) k) ?_
  refine own_go (B := s₁.setTop (mkF m 1 #[.val (.ref r0)] [(.ref r0)])) (fun t k => ?_) ?_
  · show Steps p.tables e below (s₁.setTop (mkF m 0 #[.val (.ref r0)] [])) t
    refine XS.aloadN X0.here hx rfl (hb hby dsd_0) rfl rfl ?_
    exact k
  obtain ⟨T1, X1, e1, st1⟩ := getF X0 hx hZ hown (host := "") (Or.inl (hw _ (List.mem_of_getElem? (i := 71) rfl))) Via.refl e0 F0 (g := (mkF m 1 #[.val (.ref r0)] [(.ref r0)])) rfl rfl (hb hby dsd_1)
  refine own_go st1 ?_
  show own_Fin p.tables e below (T1.setTop (mkF m 4 #[.val (.ref r0)] [(.ref u)])) _
  obtain ⟨T2, h2, X2, e2, E2, V_b2, EA2, st2⟩ := cloneH X1 hx hZ hown (hw _ (List.mem_of_getElem? (i := 95) rfl)) (hw _ (List.mem_of_getElem? (i := 74) rfl)) (hw _ (List.mem_of_getElem? (i := 78) rfl)) (hw _ (List.mem_of_getElem? (i := 76) rfl)) (hw _ (List.mem_of_getElem? (i := 77) rfl)) (hw _ (List.mem_of_getElem? (i := 79) rfl)) e1 Vu.arh Eu (g := (mkF m 4 #[.val (.ref r0)] [(.ref u)])) rfl (by rw [hml]; rfl) rfl (hb hby dsd_4) (by decide) (W := 0) (cap := 6) (by show 2 * 0 + _ ≤ _; exact Nat.le_of_eq rfl) (by decide) (by rw [own_natI (by omega)]; omega) (by decide) (by decide)
  obtain ⟨b2, g2⟩ : ∃ z, z = h0.size := ⟨_, rfl⟩
  rw [← g2] at V_b2 EA2 st2
  have g_b2 : n0 ≤ b2 := by rw [g2]; exact Z0
  have sz_b2 : h0.size ≤ b2 := by rw [g2]; exact K0.1
  have ne3 : r0 ≠ b2 := Nat.ne_of_lt (by rw [g2]; exact F0.lt)
  have ne4 : u ≠ b2 := Nat.ne_of_lt (by rw [g2]; exact Vu.lt)
  have K2 : Keep h0 h2 [] := K0.ext E2
  have X2 : Stand p l e ({ frames := 1, cells := 1, slots := 6, locals := 20 } : Room) s m #[(.ref r0)] below meth c T2 _ 1 6 := X2
  have V2 : Arv Z h2 b2 ku .int (own_I nn) (us.map own_V) (.int (0 : Int32)) := V_b2
  refine own_go st2 ?_
  show own_Fin p.tables e below (T2.setTop (mkF m 7 #[.val (.ref r0)] [(.ref b2)])) _
  obtain ⟨T5, X5, e5, st5⟩ := castY X2 hx hZ hown (hw _ (List.mem_of_getElem? (i := 96) rfl)) e2 (Ins.self EA2) (g := (mkF m 7 #[.val (.ref r0)] [(.ref b2)])) rfl rfl (hb hby dsd_7)
  refine own_go st5 ?_
  show own_Fin p.tables e below (T5.setTop (mkF m 10 #[.val (.ref r0)] [(.ref b2)])) _
  obtain ⟨fs, hr, hrun, hended, hW, hsame⟩ := X5.leave (v := some (.ref b2)) (fun h => by rw [Bd.returns] at h; cases h)
  refine ⟨_, _, ?_, hrun, hended, _, _, rfl, ?_, ⟨_, rfl⟩, hW, hsame.mono (by decide) (by decide)⟩
  · exact retOut X5 hx (t := (.array .int)) Bd.returns rfl (Or.inr (Or.inr (Or.inr (Or.inr ⟨rfl, rfl, rfl⟩)))) (hb hby dsd_10) hr
  · show Qsd Z r0 u ku nn us h0 n0 _ T5.heap _
    rw [e5]
    exact ⟨b2, ku, rfl, N0, K2, sz_b2, EA2, V2⟩
theorem dam_0 : decode prog_26_method_4_code 0 = .ok (.aload_n 1, 1) := by decide +kernel
theorem dam_1 : decode prog_26_method_4_code 1 = .ok (.invokevirtual 24, 3) := by decide +kernel
theorem dam_4 : decode prog_26_method_4_code 4 = .ok (.checkcast 25, 3) := by decide +kernel
theorem dam_7 : decode prog_26_method_4_code 7 = .ok (.astore_n 2, 1) := by decide +kernel
theorem dam_8 : decode prog_26_method_4_code 8 = .ok (.aload_n 0, 1) := by decide +kernel
theorem dam_9 : decode prog_26_method_4_code 9 = .ok (.astore_n 3, 1) := by decide +kernel
theorem dam_10 : decode prog_26_method_4_code 10 = .ok (.aload_n 3, 1) := by decide +kernel
theorem dam_11 : decode prog_26_method_4_code 11 = .ok (.arraylength, 1) := by decide +kernel
theorem dam_12 : decode prog_26_method_4_code 12 = .ok (.istore 4, 2) := by decide +kernel
theorem dam_14 : decode prog_26_method_4_code 14 = .ok (.iconst 0, 1) := by decide +kernel
theorem dam_15 : decode prog_26_method_4_code 15 = .ok (.istore 5, 2) := by decide +kernel
theorem dam_17 : decode prog_26_method_4_code 17 = .ok (.iload 5, 2) := by decide +kernel
theorem dam_19 : decode prog_26_method_4_code 19 = .ok (.iload 4, 2) := by decide +kernel
theorem dam_21 : decode prog_26_method_4_code 21 = .ok (.if_icmp .ge 45, 3) := by decide +kernel
theorem dam_24 : decode prog_26_method_4_code 24 = .ok (.aload_n 3, 1) := by decide +kernel
theorem dam_25 : decode prog_26_method_4_code 25 = .ok (.iload 5, 2) := by decide +kernel
theorem dam_27 : decode prog_26_method_4_code 27 = .ok (.iaload, 1) := by decide +kernel
theorem dam_28 : decode prog_26_method_4_code 28 = .ok (.istore 6, 2) := by decide +kernel
theorem dam_30 : decode prog_26_method_4_code 30 = .ok (.iload 6, 2) := by decide +kernel
theorem dam_32 : decode prog_26_method_4_code 32 = .ok (.iconst 1, 1) := by decide +kernel
theorem dam_33 : decode prog_26_method_4_code 33 = .ok (.if_icmp .lt 17, 3) := by decide +kernel
theorem dam_36 : decode prog_26_method_4_code 36 = .ok (.iload 6, 2) := by decide +kernel
theorem dam_38 : decode prog_26_method_4_code 38 = .ok (.bipush 6, 2) := by decide +kernel
theorem dam_40 : decode prog_26_method_4_code 40 = .ok (.if_icmp .gt 10, 3) := by decide +kernel
theorem dam_43 : decode prog_26_method_4_code 43 = .ok (.aload_n 2, 1) := by decide +kernel
theorem dam_44 : decode prog_26_method_4_code 44 = .ok (.iload 6, 2) := by decide +kernel
theorem dam_46 : decode prog_26_method_4_code 46 = .ok (.iaload, 1) := by decide +kernel
theorem dam_47 : decode prog_26_method_4_code 47 = .ok (.ifCond .ne 5, 3) := by decide +kernel
theorem dam_52 : decode prog_26_method_4_code 52 = .ok (.aload_n 2, 1) := by decide +kernel
theorem dam_53 : decode prog_26_method_4_code 53 = .ok (.iload 6, 2) := by decide +kernel
theorem dam_55 : decode prog_26_method_4_code 55 = .ok (.dup2, 1) := by decide +kernel
theorem dam_56 : decode prog_26_method_4_code 56 = .ok (.iaload, 1) := by decide +kernel
theorem dam_57 : decode prog_26_method_4_code 57 = .ok (.iconst 1, 1) := by decide +kernel
theorem dam_58 : decode prog_26_method_4_code 58 = .ok (.isub, 1) := by decide +kernel
theorem dam_59 : decode prog_26_method_4_code 59 = .ok (.iastore, 1) := by decide +kernel
theorem dam_60 : decode prog_26_method_4_code 60 = .ok (.iinc 5 1, 3) := by decide +kernel
theorem dam_63 : decode prog_26_method_4_code 63 = .ok (.goto (-46), 3) := by decide +kernel
theorem dam_66 : decode prog_26_method_4_code 66 = .ok (.iconst 1, 1) := by decide +kernel
theorem dam_67 : decode prog_26_method_4_code 67 = .ok (.ireturn, 1) := by decide +kernel
theorem pnam : plainName "com/example/rollhaus/rollhaus/dice/Faces" = true := by first | (simp [plainName, overriddenIn]; done) | decide +kernel
theorem efam (m : MethodId) (z0 : Addr) (z1 : Addr) : entryFrame m #[(.ref z0), (.ref z1)] 7 = mkF m 0 #[.val (.ref z0), .val (.ref z1), .unset, .unset, .unset, .unset, .unset] [] := by first | (simp [entryFrame, mkF, argsToLocals, Value.category]; done) | rfl
def Qam (Z : State) (r0 : Addr) (r1 : Addr) (kc : ClassId) (kd : ClassId) (nn : Nat) (cs : List Nat) (ls0 : List Nat) (h0 : Heap) (n0 : Nat) (v : Option Value) (h : Heap) (L : List Loc) : Prop := v = some (.int (1 : Int32)) ∧ Fr n0 L ∧ Keep h0 h []
set_option maxRecDepth 65536 in
set_option maxHeartbeats 40000000 in
theorem rmam (l : Launch) (Z : State) (a0 : Array Value) (hw : ∀ d ∈ tables_1, d.before a0 Z = true) (ws : List Jvm.Cond) (r0 : Addr) (r1 : Addr) (kc : ClassId) (kd : ClassId) (nn : Nat) (cs : List Nat) (ls0 : List Nat) (h0 : Heap) (n0 : Nat) (Z0 : n0 ≤ h0.size) (V0 : Arv Z h0 r0 kc .int (own_I nn) (cs.map own_V) (.int (0 : Int32))) (Vq : Arv Z h0 r1 kd .int (7 : Int32) (ls0.map own_V) (.int (0 : Int32))) (Eq : Exa Z h0 r1 "[I") (hcs : cs.length = nn) (hnn : nn ≤ 6) (hls : ls0.length = 7) (hlc : ∀ d, ls0.getD d 0 ≤ 6) (ham : own_amB cs ls0 = true) :
    MetFree l (⟨"com/example/rollhaus/rollhaus/dice/Faces", "among", "([I[I)Z"⟩ : MethodName) (head1 (Jvm.Cond.code (⟨"com/example/rollhaus/rollhaus/dice/Faces", "among", "([I[I)Z"⟩ : MethodName) prog_26_method_4_code 7 (some .boolean) :: ws) ({ frames := 1, cells := 1, slots := 7, locals := 20 } : Room)) (fun a U => a = #[(.ref r0), (.ref r1)] ∧ Z.Warmed39 U.vm ∧ U.heap = h0) (fun _ _ _ _ _ => True) (fun _ U o U' => ∃ v L, o = .returned v ∧ Qam Z r0 r1 kc kd nn cs ls0 h0 n0 v U'.heap L ∧ FrameEnd U o U' L ({ frames := 1, cells := 1, slots := 7, locals := 20 } : Room).cells ({ frames := 1, cells := 1, slots := 7, locals := 20 } : Room).slots) := by
  refine MetFree.of_bodySF (plainFor_of_name pnam) hisR ?_
  intro p e s m args below meth c s₁ Bd hml0 hP hK
  obtain ⟨rfl, hZ, hh⟩ := hP
  have hx := Bd.exec
  have hby := Bd.bytes
  have hml : c.maxLocals = 7 := hml0
  have hown : s.vm.findClass "com/example/rollhaus/rollhaus/dice/Faces" = some m.cls := findClass_of_methodNamed Bd.named
  have hnm := (name_of_methodNamed Bd.named Bd.method).1
  have X0 : Stand p l e ({ frames := 1, cells := 1, slots := 7, locals := 20 } : Room) s m #[(.ref r0), (.ref r1)] below meth c s₁ [] 0 0 := Stand.of_body Bd
  have e0 : s₁.heap = h0 := by rw [← hh, Bd.state]; rfl
  have N0 := Fr.nil n0
  have K0 : Keep h0 h0 [] := Keep.refl h0 _
  refine own_in ?_
  refine own_go (B := s₁.setTop (mkF m 0 #[.val (.ref r0), .val (.ref r1), .unset, .unset, .unset, .unset, .unset] [])) (fun t k => castTop (efam m r0 r1) k) ?_
  refine own_go (B := s₁.setTop (mkF m 1 #[.val (.ref r0), .val (.ref r1), .unset, .unset, .unset, .unset, .unset] [(.ref r1)])) (fun t k => ?_) ?_
  · show Steps p.tables e below (s₁.setTop (mkF m 0 #[.val (.ref r0), .val (.ref r1), .unset, .unset, .unset, .unset, .unset] [])) t
    refine XS.aloadN X0.here hx rfl (hb hby dam_0) rfl rfl ?_
    exact k
  obtain ⟨T1, h1, X1, e1, E1, V_b1, EA1, st1⟩ := cloneH X0 hx hZ hown (hw _ (List.mem_of_getElem? (i := 106) rfl)) (hw _ (List.mem_of_getElem? (i := 74) rfl)) (hw _ (List.mem_of_getElem? (i := 78) rfl)) (hw _ (List.mem_of_getElem? (i := 76) rfl)) (hw _ (List.mem_of_getElem? (i := 77) rfl)) (hw _ (List.mem_of_getElem? (i := 79) rfl)) e0 Vq.arh Eq (g := (mkF m 1 #[.val (.ref r0), .val (.ref r1), .unset, .unset, .unset, .unset, .unset] [(.ref r1)])) rfl (by rw [hml]; rfl) rfl (hb hby dam_1) (by decide) (W := 0) (cap := 7) (by show 2 * 0 + _ ≤ _; exact Nat.le_of_eq rfl) (by decide) (by decide) (by decide) (by decide)
  obtain ⟨b1, g1⟩ : ∃ z, z = h0.size := ⟨_, rfl⟩
  rw [← g1] at V_b1 EA1 st1
  have g_b1 : n0 ≤ b1 := by rw [g1]; exact Z0
  have sz_b1 : h0.size ≤ b1 := by rw [g1]; exact K0.1
  have ne2 : r0 ≠ b1 := Nat.ne_of_lt (by rw [g1]; exact V0.lt)
  have ne3 : r1 ≠ b1 := Nat.ne_of_lt (by rw [g1]; exact Vq.lt)
  have K1 : Keep h0 h1 [] := K0.ext E1
  have X1 : Stand p l e ({ frames := 1, cells := 1, slots := 7, locals := 20 } : Room) s m #[(.ref r0), (.ref r1)] below meth c T1 _ 1 7 := X1
  have V1 : Arv Z h1 b1 kd .int (7 : Int32) (ls0.map own_V) (.int (0 : Int32)) := V_b1
  refine own_go st1 ?_
  show own_Fin p.tables e below (T1.setTop (mkF m 4 #[.val (.ref r0), .val (.ref r1), .unset, .unset, .unset, .unset, .unset] [(.ref b1)])) _
  obtain ⟨T4, X4, e4, st4⟩ := castY X1 hx hZ hown (hw _ (List.mem_of_getElem? (i := 107) rfl)) e1 (Ins.self EA1) (g := (mkF m 4 #[.val (.ref r0), .val (.ref r1), .unset, .unset, .unset, .unset, .unset] [(.ref b1)])) rfl rfl (hb hby dam_4)
  refine own_go st4 ?_
  show own_Fin p.tables e below (T4.setTop (mkF m 7 #[.val (.ref r0), .val (.ref r1), .unset, .unset, .unset, .unset, .unset] [(.ref b1)])) _
  refine own_go (B := T4.setTop (mkF m 11 #[.val (.ref r0), .val (.ref r1), .val (.ref b1), .val (.ref r0), .unset, .unset, .unset] [(.ref r0)])) (fun t k => ?_) ?_
  · show Steps p.tables e below (T4.setTop (mkF m 7 #[.val (.ref r0), .val (.ref r1), .unset, .unset, .unset, .unset, .unset] [(.ref b1)])) t
    refine XS.astoreN X4.here hx rfl (hb hby dam_7) rfl rfl (l' := #[.val (.ref r0), .val (.ref r1), .val (.ref b1), .unset, .unset, .unset, .unset]) rfl ?_
    refine XS.aloadN X4.here hx rfl (hb hby dam_8) rfl rfl ?_
    refine XS.astoreN X4.here hx rfl (hb hby dam_9) rfl rfl (l' := #[.val (.ref r0), .val (.ref r1), .val (.ref b1), .val (.ref r0), .unset, .unset, .unset]) rfl ?_
    refine XS.aloadN X4.here hx rfl (hb hby dam_10) rfl rfl ?_
    exact k
  have f6 := (V0.ext E1)
  obtain ⟨cl5, Ar5, -, S5, M5, -, -⟩ := id f6
  refine own_go (B := T4.setTop (mkF m 12 #[.val (.ref r0), .val (.ref r1), .val (.ref b1), .val (.ref r0), .unset, .unset, .unset] [(.int (own_I nn))])) (fun t k => ?_) ?_
  · refine X4.arraylength hx (by first | exact Ar5.1 | (rw [e4]; exact Ar5.1)) (State.isArrayOf_alike hZ.alike Ar5.2.1) (g := (mkF m 11 #[.val (.ref r0), .val (.ref r1), .val (.ref b1), .val (.ref r0), .unset, .unset, .unset] [(.ref r0)])) rfl rfl (hb hby dam_11) _ ?_
    rw [len_of S5 M5]
    exact k
  refine own_go (B := T4.setTop (mkF m 17 #[.val (.ref r0), .val (.ref r1), .val (.ref b1), .val (.ref r0), .val (.int (own_I nn)), .val (.int (0 : Int32)), .unset] [])) (fun t k => ?_) ?_
  · show Steps p.tables e below (T4.setTop (mkF m 12 #[.val (.ref r0), .val (.ref r1), .val (.ref b1), .val (.ref r0), .unset, .unset, .unset] [(.int (own_I nn))])) t
    refine XS.istore X4.here hx rfl (hb hby dam_12) rfl (l' := #[.val (.ref r0), .val (.ref r1), .val (.ref b1), .val (.ref r0), .val (.int (own_I nn)), .unset, .unset]) rfl ?_
    refine XS.iconst X4.here hx rfl (hb hby dam_14) ?_
    refine XS.istore X4.here hx rfl (hb hby dam_15) rfl (l' := #[.val (.ref r0), .val (.ref r1), .val (.ref b1), .val (.ref r0), .val (.int (own_I nn)), .val (.int (0 : Int32)), .unset]) rfl ?_
    exact k
  have loop : ∀ (ds ls : List Nat) (i : Nat) (T : State) (hh : Heap) (locs : List Loc) (sl : Slot) (hs : One sl) (X : Stand p l e ({ frames := 1, cells := 1, slots := 7, locals := 20 } : Room) s m #[(.ref r0), (.ref r1)] below meth c T locs 1 7) (eT : T.heap = hh) (N : Fr n0 locs) (K : Keep h0 hh []) (V : Arv Z hh b1 kd .int (7 : Int32) (ls.map own_V) (.int (0 : Int32))) (hl : ls.length = 7) (hlc : ∀ d, ls.getD d 0 ≤ 6) (hi : i + ds.length = nn) (hd : ∀ j, j < ds.length → cs.getD (i + j) 0 = ds.getD j 0) (ham : own_amB ds ls = true), own_Fin p.tables e below (T.setTop (mkF m 17 #[.val (.ref r0), .val (.ref r1), .val (.ref b1), .val (.ref r0), .val (.int (own_I nn)), .val (.int (own_I i)), sl] [])) (fun s₂ o => s₂.status = .running ∧ Ended s₂ below o ∧ ∃ v L, o = .returned v ∧ Qam Z r0 r1 kc kd nn cs ls0 h0 n0 v s₂.heap L ∧ FrameEnd s o s₂ L ({ frames := 1, cells := 1, slots := 7, locals := 20 } : Room).cells ({ frames := 1, cells := 1, slots := 7, locals := 20 } : Room).slots) := by
    intro ds
    induction ds with
    | nil =>
      intro ls i T hh locs sl hs X eT N K V hl hlc hi hd ham
      simp only [List.length_nil] at hi
      have V0h := V0.keep K nin0
      refine own_go (B := T.setTop (mkF m 21 #[.val (.ref r0), .val (.ref r1), .val (.ref b1), .val (.ref r0), .val (.int (own_I nn)), .val (.int (own_I i)), sl] [(.int (own_I nn)), (.int (own_I i))])) (fun t k => ?_) ?_
      · show Steps p.tables e below (T.setTop (mkF m 17 #[.val (.ref r0), .val (.ref r1), .val (.ref b1), .val (.ref r0), .val (.int (own_I nn)), .val (.int (own_I i)), sl] [])) t
        refine XS.iload X.here hx rfl (hb hby dam_17) rfl ?_
        refine XS.iload X.here hx rfl (hb hby dam_19) rfl ?_
        exact k
      have hc7 : ¬ ((own_I i) < (own_I nn)) := own_nlt (by omega) (by omega)
      refine own_go (B := T.setTop (mkF m 67 #[.val (.ref r0), .val (.ref r1), .val (.ref b1), .val (.ref r0), .val (.int (own_I nn)), .val (.int (own_I i)), sl] [(.int (1 : Int32))])) (fun t k => ?_) ?_
      · show Steps p.tables e below (T.setTop (mkF m 21 #[.val (.ref r0), .val (.ref r1), .val (.ref b1), .val (.ref r0), .val (.int (own_I nn)), .val (.int (own_I i)), sl] [(.int (own_I nn)), (.int (own_I i))])) t
        refine XS.icmpYes X.here hx rfl (pc0 := 21) (pc' := 66) rfl (hb hby dam_21) rfl (flt hc7).2.1 (by decide) (by decide) ?_
        refine XS.iconst X.here hx rfl (hb hby dam_66) ?_
        exact k
      obtain ⟨fs, hr, hrun, hended, hW, hsame⟩ := X.leave (v := some (.int (1 : Int32))) (fun h => by rw [Bd.returns] at h; cases h)
      refine ⟨_, _, ?_, hrun, hended, _, _, rfl, ?_, ⟨_, rfl⟩, hW, hsame.mono (by decide) (by decide)⟩
      · exact retOut X hx (t := .boolean) Bd.returns rfl (Or.inl ⟨rfl, by simp, _, rfl⟩) (hb hby dam_67) hr
      · show Qam Z r0 r1 kc kd nn cs ls0 h0 n0 _ T.heap _
        rw [eT]
        exact ⟨rfl, N, K⟩
    | cons d ds ih =>
      intro ls i T hh locs sl hs X eT N K V hl hlc hi hd ham
      have V0h := V0.keep K nin0
      have hdi : cs.getD i 0 = d := hd 0 (by simp)
      simp only [List.length_cons] at hi
      replace ham := own_amT ham
      have hd1 := ham.1
      have hd6 := ham.2.1
      have hld := hlc d
      refine own_go (B := T.setTop (mkF m 21 #[.val (.ref r0), .val (.ref r1), .val (.ref b1), .val (.ref r0), .val (.int (own_I nn)), .val (.int (own_I i)), sl] [(.int (own_I nn)), (.int (own_I i))])) (fun t k => ?_) ?_
      · show Steps p.tables e below (T.setTop (mkF m 17 #[.val (.ref r0), .val (.ref r1), .val (.ref b1), .val (.ref r0), .val (.int (own_I nn)), .val (.int (own_I i)), sl] [])) t
        refine XS.iload X.here hx rfl (hb hby dam_17) rfl ?_
        refine XS.iload X.here hx rfl (hb hby dam_19) rfl ?_
        exact k
      have hc9 : (own_I i) < (own_I nn) := own_ltI (by omega) (by omega)
      refine own_go (B := T.setTop (mkF m 27 #[.val (.ref r0), .val (.ref r1), .val (.ref b1), .val (.ref r0), .val (.int (own_I nn)), .val (.int (own_I i)), sl] [(.int (own_I i)), (.ref r0)])) (fun t k => ?_) ?_
      · show Steps p.tables e below (T.setTop (mkF m 21 #[.val (.ref r0), .val (.ref r1), .val (.ref b1), .val (.ref r0), .val (.int (own_I nn)), .val (.int (own_I i)), sl] [(.int (own_I nn)), (.int (own_I i))])) t
        refine XS.icmpNo X.here hx rfl (hb hby dam_21) rfl (tlt hc9).2.1 ?_
        refine XS.aloadN X.here hx rfl (hb hby dam_24) rfl rfl ?_
        refine XS.iload X.here hx rfl (hb hby dam_25) rfl ?_
        exact k
      obtain ⟨cl10, Ar10, -, S10, M10, Ha10, G10⟩ := id V0h
      have hin10 : ¬ ((own_I i) < 0 ∨ cl10.slots.size ≤ ((own_I i)).toNatClampNeg) := inb_of S10 (own_inI (by omega) (by omega))
      have hat10 : cl10.slots[((own_I i)).toNatClampNeg]? = some (.int (own_I d)) := Has.at Ha10 hin10 (own_getI2 cs (by omega) hdi)
      refine own_go (B := T.setTop (mkF m 28 #[.val (.ref r0), .val (.ref r1), .val (.ref b1), .val (.ref r0), .val (.int (own_I nn)), .val (.int (own_I i)), sl] [(.int (own_I d))])) (fun t k => ?_) ?_
      · exact X.iaload hx (j := (own_I i)) (v := (.int (own_I d))) (by first | exact Ar10.1 | (rw [eT]; exact Ar10.1)) (State.isArrayOf_alike hZ.alike Ar10.2.1) Ar10.2.2 hin10 hat10 (g := (mkF m 27 #[.val (.ref r0), .val (.ref r1), .val (.ref b1), .val (.ref r0), .val (.int (own_I nn)), .val (.int (own_I i)), sl] [(.int (own_I i)), (.ref r0)])) rfl rfl (hb hby dam_27) _ k
      refine own_go (B := T.setTop (mkF m 33 #[.val (.ref r0), .val (.ref r1), .val (.ref b1), .val (.ref r0), .val (.int (own_I nn)), .val (.int (own_I i)), .val (.int (own_I d))] [(.int (1 : Int32)), (.int (own_I d))])) (fun t k => ?_) ?_
      · show Steps p.tables e below (T.setTop (mkF m 28 #[.val (.ref r0), .val (.ref r1), .val (.ref b1), .val (.ref r0), .val (.int (own_I nn)), .val (.int (own_I i)), sl] [(.int (own_I d))])) t
        refine XS.istore X.here hx rfl (hb hby dam_28) rfl (l' := #[.val (.ref r0), .val (.ref r1), .val (.ref b1), .val (.ref r0), .val (.int (own_I nn)), .val (.int (own_I i)), .val (.int (own_I d))]) (own_os6 hs) ?_
        refine XS.iload X.here hx rfl (hb hby dam_30) rfl ?_
        refine XS.iconst X.here hx rfl (hb hby dam_32) ?_
        exact k
      have hc11 : ¬ ((own_I d) < (1 : Int32)) := own_nlt (n := 1) hd1 (by omega)
      refine own_go (B := T.setTop (mkF m 40 #[.val (.ref r0), .val (.ref r1), .val (.ref b1), .val (.ref r0), .val (.int (own_I nn)), .val (.int (own_I i)), .val (.int (own_I d))] [(.int (6 : Int32)), (.int (own_I d))])) (fun t k => ?_) ?_
      · show Steps p.tables e below (T.setTop (mkF m 33 #[.val (.ref r0), .val (.ref r1), .val (.ref b1), .val (.ref r0), .val (.int (own_I nn)), .val (.int (own_I i)), .val (.int (own_I d))] [(.int (1 : Int32)), (.int (own_I d))])) t
        refine XS.icmpNo X.here hx rfl (hb hby dam_33) rfl (flt hc11).1 ?_
        refine XS.iload X.here hx rfl (hb hby dam_36) rfl ?_
        refine XS.bipush X.here hx rfl (hb hby dam_38) ?_
        exact k
      have hc12 : ¬ ((6 : Int32) < (own_I d)) := own_nlt (i := 6) hd6 (by decide)
      refine own_go (B := T.setTop (mkF m 46 #[.val (.ref r0), .val (.ref r1), .val (.ref b1), .val (.ref r0), .val (.int (own_I nn)), .val (.int (own_I i)), .val (.int (own_I d))] [(.int (own_I d)), (.ref b1)])) (fun t k => ?_) ?_
      · show Steps p.tables e below (T.setTop (mkF m 40 #[.val (.ref r0), .val (.ref r1), .val (.ref b1), .val (.ref r0), .val (.int (own_I nn)), .val (.int (own_I i)), .val (.int (own_I d))] [(.int (6 : Int32)), (.int (own_I d))])) t
        refine XS.icmpNo X.here hx rfl (hb hby dam_40) rfl (flt hc12).2.2.1 ?_
        refine XS.aloadN X.here hx rfl (hb hby dam_43) rfl rfl ?_
        refine XS.iload X.here hx rfl (hb hby dam_44) rfl ?_
        exact k
      obtain ⟨cl13, Ar13, -, S13, M13, Ha13, G13⟩ := id V
      have hin13 : ¬ ((own_I d) < 0 ∨ cl13.slots.size ≤ ((own_I d)).toNatClampNeg) := inb_of S13 (own_inI (n := 7) (by omega) (by decide))
      have hat13 : cl13.slots[((own_I d)).toNatClampNeg]? = some (.int (own_I (ls.getD d 0))) := Has.at Ha13 hin13 (own_getI ls (by omega))
      refine own_go (B := T.setTop (mkF m 47 #[.val (.ref r0), .val (.ref r1), .val (.ref b1), .val (.ref r0), .val (.int (own_I nn)), .val (.int (own_I i)), .val (.int (own_I d))] [(.int (own_I (ls.getD d 0)))])) (fun t k => ?_) ?_
      · exact X.iaload hx (j := (own_I d)) (v := (.int (own_I (ls.getD d 0)))) (by first | exact Ar13.1 | (rw [eT]; exact Ar13.1)) (State.isArrayOf_alike hZ.alike Ar13.2.1) Ar13.2.2 hin13 hat13 (g := (mkF m 46 #[.val (.ref r0), .val (.ref r1), .val (.ref b1), .val (.ref r0), .val (.int (own_I nn)), .val (.int (own_I i)), .val (.int (own_I d))] [(.int (own_I d)), (.ref b1)])) rfl rfl (hb hby dam_46) _ k
      have hc14 : ¬ ((own_I (ls.getD d 0)) = (0 : Int32)) := fun q => ham.2.2.1 (own_inj (by omega) (by omega) (q.trans (rfl : (0 : Int32) = own_I 0)))
      refine own_go (B := T.setTop (mkF m 56 #[.val (.ref r0), .val (.ref r1), .val (.ref b1), .val (.ref r0), .val (.int (own_I nn)), .val (.int (own_I i)), .val (.int (own_I d))] [(.int (own_I d)), (.ref b1), (.int (own_I d)), (.ref b1)])) (fun t k => ?_) ?_
      · show Steps p.tables e below (T.setTop (mkF m 47 #[.val (.ref r0), .val (.ref r1), .val (.ref b1), .val (.ref r0), .val (.int (own_I nn)), .val (.int (own_I i)), .val (.int (own_I d))] [(.int (own_I (ls.getD d 0)))])) t
        refine XS.ifYes X.here hx rfl (pc0 := 47) (pc' := 52) rfl (hb hby dam_47) rfl ((if0 _ _).trans (feq hc14).2) (by decide) (by decide) ?_
        refine XS.aloadN X.here hx rfl (hb hby dam_52) rfl rfl ?_
        refine XS.iload X.here hx rfl (hb hby dam_53) rfl ?_
        jvm_step X.here [X.here.top, hx, (hb hby dam_55), Value.category]
        exact k
      obtain ⟨cl15, Ar15, -, S15, M15, Ha15, G15⟩ := id V
      have hin15 : ¬ ((own_I d) < 0 ∨ cl15.slots.size ≤ ((own_I d)).toNatClampNeg) := inb_of S15 (own_inI (n := 7) (by omega) (by decide))
      have hat15 : cl15.slots[((own_I d)).toNatClampNeg]? = some (.int (own_I (ls.getD d 0))) := Has.at Ha15 hin15 (own_getI ls (by omega))
      refine own_go (B := T.setTop (mkF m 57 #[.val (.ref r0), .val (.ref r1), .val (.ref b1), .val (.ref r0), .val (.int (own_I nn)), .val (.int (own_I i)), .val (.int (own_I d))] [(.int (own_I (ls.getD d 0))), (.int (own_I d)), (.ref b1)])) (fun t k => ?_) ?_
      · exact X.iaload hx (j := (own_I d)) (v := (.int (own_I (ls.getD d 0)))) (by first | exact Ar15.1 | (rw [eT]; exact Ar15.1)) (State.isArrayOf_alike hZ.alike Ar15.2.1) Ar15.2.2 hin15 hat15 (g := (mkF m 56 #[.val (.ref r0), .val (.ref r1), .val (.ref b1), .val (.ref r0), .val (.int (own_I nn)), .val (.int (own_I i)), .val (.int (own_I d))] [(.int (own_I d)), (.ref b1), (.int (own_I d)), (.ref b1)])) rfl rfl (hb hby dam_56) _ k
      refine own_go (B := T.setTop (mkF m 59 #[.val (.ref r0), .val (.ref r1), .val (.ref b1), .val (.ref r0), .val (.int (own_I nn)), .val (.int (own_I i)), .val (.int (own_I d))] [(.int ((own_I (ls.getD d 0)) - (1 : Int32))), (.int (own_I d)), (.ref b1)])) (fun t k => ?_) ?_
      · show Steps p.tables e below (T.setTop (mkF m 57 #[.val (.ref r0), .val (.ref r1), .val (.ref b1), .val (.ref r0), .val (.int (own_I nn)), .val (.int (own_I i)), .val (.int (own_I d))] [(.int (own_I (ls.getD d 0))), (.int (own_I d)), (.ref b1)])) t
        refine XS.iconst X.here hx rfl (hb hby dam_57) ?_
        refine XS.isub X.here hx rfl (hb hby dam_58) rfl ?_
        exact k
      refine own_go (B := T.setTop (mkF m 59 #[.val (.ref r0), .val (.ref r1), .val (.ref b1), .val (.ref r0), .val (.int (own_I nn)), .val (.int (own_I i)), .val (.int (own_I d))] [(.int (own_I (ls.getD d 0 - 1))), (.int (own_I d)), (.ref b1)])) (fun t k => (congrArg (fun z => Steps p.tables e below (T.setTop (mkF m 59 #[.val (.ref r0), .val (.ref r1), .val (.ref b1), .val (.ref r0), .val (.int (own_I nn)), .val (.int (own_I i)), .val (.int (own_I d))] [(.int z), (.int (own_I d)), (.ref b1)])) t) (own_sub ham.2.2.1 (by omega))).mpr k) ?_
      obtain ⟨cl16, Ar16, q16, S16, M16, Ha16, G16⟩ := id V
      have hin16 : ¬ ((own_I d) < 0 ∨ cl16.slots.size ≤ ((own_I d)).toNatClampNeg) := inb_of S16 (own_inI (n := 7) (by omega) (by decide))
      obtain ⟨T16, h16, X16, e16, W16, st16⟩ := stI X hx hZ eT Ar16 (j := (own_I d)) hin16 (g := (mkF m 59 #[.val (.ref r0), .val (.ref r1), .val (.ref b1), .val (.ref r0), .val (.int (own_I nn)), .val (.int (own_I i)), .val (.int (own_I d))] [(.int (own_I (ls.getD d 0 - 1))), (.int (own_I d)), (.ref b1)])) rfl rfl (hb hby dam_59)
      have N16 := Fr.snoc X16 N g_b1
      have K16 : Keep h0 h16 [] := K.wr W16 (Or.inr sz_b1)
      have V16 : Arv Z h16 b1 kd .int (7 : Int32) ((ls.set d (ls.getD d 0 - 1)).map own_V) (.int (0 : Int32)) := own_setA (Arv.set Ar16 q16 S16 M16 Ha16 G16 rfl W16 d (own_natI (by omega)) (by rw [List.length_map, hl]; omega))
      refine own_go st16 ?_
      show own_Fin p.tables e below (T16.setTop (mkF m 60 #[.val (.ref r0), .val (.ref r1), .val (.ref b1), .val (.ref r0), .val (.int (own_I nn)), .val (.int (own_I i)), .val (.int (own_I d))] [])) _
      refine own_go (B := T16.setTop (mkF m 17 #[.val (.ref r0), .val (.ref r1), .val (.ref b1), .val (.ref r0), .val (.int (own_I nn)), .val (.int ((own_I i) + (1 : Int32))), .val (.int (own_I d))] [])) (fun t k => ?_) ?_
      · show Steps p.tables e below (T16.setTop (mkF m 60 #[.val (.ref r0), .val (.ref r1), .val (.ref b1), .val (.ref r0), .val (.int (own_I nn)), .val (.int (own_I i)), .val (.int (own_I d))] [])) t
        refine XS.iinc X16.here hx rfl (hb hby dam_60) rfl (l' := #[.val (.ref r0), .val (.ref r1), .val (.ref b1), .val (.ref r0), .val (.int (own_I nn)), .val (.int ((own_I i) + (1 : Int32))), .val (.int (own_I d))]) rfl ?_
        refine XS.goto X16.here hx rfl (pc0 := 63) (pc' := 17) rfl (hb hby dam_63) (by decide) (by decide) ?_
        exact k
      refine own_go (B := T16.setTop (mkF m 17 #[.val (.ref r0), .val (.ref r1), .val (.ref b1), .val (.ref r0), .val (.int (own_I nn)), .val (.int (own_I (i + 1))), .val (.int (own_I d))] [])) (fun t k => (congrArg (fun z => Steps p.tables e below (T16.setTop (mkF m 17 #[.val (.ref r0), .val (.ref r1), .val (.ref b1), .val (.ref r0), .val (.int (own_I nn)), .val (.int z), .val (.int (own_I d))] [])) t) (own_add i 1)).mpr k) ?_
      exact ih (ls.set d (ls.getD d 0 - 1)) (i + 1) _ _ _ _ (One.val rfl) X16 e16 N16 K16 V16 (by rw [List.length_set]; exact hl) (own_setLe hlc) (by omega) (fun j hj => by have := hd (j + 1) (by simp only [List.length_cons]; omega); rw [show i + (j + 1) = i + 1 + j by omega] at this; exact this) ham.2.2.2
  exact loop cs ls0 0 _ _ _ _ One.u X4 e4 N0 K1 V1 hls hlc (by omega) (fun j hj => by rw [Nat.zero_add]) ham
theorem dsm_0 : decode method_4_code 0 = .ok (.aload_n 0, 1) := by decide +kernel
theorem dsm_1 : decode method_4_code 1 = .ok (.ifnull 68, 3) := by decide +kernel
theorem dsm_4 : decode method_4_code 4 = .ok (.aload_n 0, 1) := by decide +kernel
theorem dsm_5 : decode method_4_code 5 = .ok (.arraylength, 1) := by decide +kernel
theorem dsm_6 : decode method_4_code 6 = .ok (.bipush 6, 2) := by decide +kernel
theorem dsm_8 : decode method_4_code 8 = .ok (.if_icmp .ne 61, 3) := by decide +kernel
theorem dsm_11 : decode method_4_code 11 = .ok (.aload_n 0, 1) := by decide +kernel
theorem dsm_12 : decode method_4_code 12 = .ok (.iconst 0, 1) := by decide +kernel
theorem dsm_13 : decode method_4_code 13 = .ok (.iaload, 1) := by decide +kernel
theorem dsm_14 : decode method_4_code 14 = .ok (.aload_n 1, 1) := by decide +kernel
theorem dsm_15 : decode method_4_code 15 = .ok (.iconst 0, 1) := by decide +kernel
theorem dsm_16 : decode method_4_code 16 = .ok (.iaload, 1) := by decide +kernel
theorem dsm_17 : decode method_4_code 17 = .ok (.if_icmp .ne 52, 3) := by decide +kernel
theorem dsm_20 : decode method_4_code 20 = .ok (.aload_n 0, 1) := by decide +kernel
theorem dsm_21 : decode method_4_code 21 = .ok (.iconst 1, 1) := by decide +kernel
theorem dsm_22 : decode method_4_code 22 = .ok (.iaload, 1) := by decide +kernel
theorem dsm_23 : decode method_4_code 23 = .ok (.aload_n 1, 1) := by decide +kernel
theorem dsm_24 : decode method_4_code 24 = .ok (.iconst 1, 1) := by decide +kernel
theorem dsm_25 : decode method_4_code 25 = .ok (.iaload, 1) := by decide +kernel
theorem dsm_26 : decode method_4_code 26 = .ok (.if_icmp .ne 43, 3) := by decide +kernel
theorem dsm_29 : decode method_4_code 29 = .ok (.aload_n 0, 1) := by decide +kernel
theorem dsm_30 : decode method_4_code 30 = .ok (.iconst 2, 1) := by decide +kernel
theorem dsm_31 : decode method_4_code 31 = .ok (.iaload, 1) := by decide +kernel
theorem dsm_32 : decode method_4_code 32 = .ok (.aload_n 1, 1) := by decide +kernel
theorem dsm_33 : decode method_4_code 33 = .ok (.iconst 2, 1) := by decide +kernel
theorem dsm_34 : decode method_4_code 34 = .ok (.iaload, 1) := by decide +kernel
theorem dsm_35 : decode method_4_code 35 = .ok (.if_icmp .ne 34, 3) := by decide +kernel
theorem dsm_38 : decode method_4_code 38 = .ok (.aload_n 0, 1) := by decide +kernel
theorem dsm_39 : decode method_4_code 39 = .ok (.iconst 3, 1) := by decide +kernel
theorem dsm_40 : decode method_4_code 40 = .ok (.iaload, 1) := by decide +kernel
theorem dsm_41 : decode method_4_code 41 = .ok (.aload_n 1, 1) := by decide +kernel
theorem dsm_42 : decode method_4_code 42 = .ok (.iconst 3, 1) := by decide +kernel
theorem dsm_43 : decode method_4_code 43 = .ok (.iaload, 1) := by decide +kernel
theorem dsm_44 : decode method_4_code 44 = .ok (.if_icmp .ne 25, 3) := by decide +kernel
theorem dsm_47 : decode method_4_code 47 = .ok (.aload_n 0, 1) := by decide +kernel
theorem dsm_48 : decode method_4_code 48 = .ok (.iconst 4, 1) := by decide +kernel
theorem dsm_49 : decode method_4_code 49 = .ok (.iaload, 1) := by decide +kernel
theorem dsm_50 : decode method_4_code 50 = .ok (.aload_n 1, 1) := by decide +kernel
theorem dsm_51 : decode method_4_code 51 = .ok (.iconst 4, 1) := by decide +kernel
theorem dsm_52 : decode method_4_code 52 = .ok (.iaload, 1) := by decide +kernel
theorem dsm_53 : decode method_4_code 53 = .ok (.if_icmp .ne 16, 3) := by decide +kernel
theorem dsm_56 : decode method_4_code 56 = .ok (.aload_n 0, 1) := by decide +kernel
theorem dsm_57 : decode method_4_code 57 = .ok (.iconst 5, 1) := by decide +kernel
theorem dsm_58 : decode method_4_code 58 = .ok (.iaload, 1) := by decide +kernel
theorem dsm_59 : decode method_4_code 59 = .ok (.aload_n 1, 1) := by decide +kernel
theorem dsm_60 : decode method_4_code 60 = .ok (.iconst 5, 1) := by decide +kernel
theorem dsm_61 : decode method_4_code 61 = .ok (.iaload, 1) := by decide +kernel
theorem dsm_62 : decode method_4_code 62 = .ok (.if_icmp .ne 7, 3) := by decide +kernel
theorem dsm_65 : decode method_4_code 65 = .ok (.iconst 1, 1) := by decide +kernel
theorem dsm_66 : decode method_4_code 66 = .ok (.goto 4, 3) := by decide +kernel
theorem dsm_70 : decode method_4_code 70 = .ok (.ireturn, 1) := by decide +kernel
theorem pnsm : plainName "com/example/rollhaus/rollhaus/zehntausend/TurnThrownPinLaw" = true := by first | (simp [plainName, overriddenIn]; done) | decide +kernel
theorem efsm (m : MethodId) (z0 : Addr) (z1 : Addr) : entryFrame m #[(.ref z0), (.ref z1)] 2 = mkF m 0 #[.val (.ref z0), .val (.ref z1)] [] := by first | (simp [entryFrame, mkF, argsToLocals, Value.category]; done) | rfl
def Qsm (Z : State) (r0 : Addr) (r1 : Addr) (ka : ClassId) (kb : ClassId) (d0 : Nat) (d1 : Nat) (d2 : Nat) (d3 : Nat) (d4 : Nat) (d5 : Nat) (h0 : Heap) (n0 : Nat) (v : Option Value) (h : Heap) (L : List Loc) : Prop := v = some (.int (1 : Int32)) ∧ Fr n0 L ∧ h = h0
set_option maxRecDepth 65536 in
set_option maxHeartbeats 40000000 in
theorem rmsm (l : Launch) (Z : State) (a0 : Array Value) (hw : ∀ d ∈ tables_1, d.before a0 Z = true) (ws : List Jvm.Cond) (r0 : Addr) (r1 : Addr) (ka : ClassId) (kb : ClassId) (d0 : Nat) (d1 : Nat) (d2 : Nat) (d3 : Nat) (d4 : Nat) (d5 : Nat) (h0 : Heap) (n0 : Nat) (Z0 : n0 ≤ h0.size) (V0 : Arv Z h0 r0 ka .int (6 : Int32) ([d0, d1, d2, d3, d4, d5].map own_V) (.int (0 : Int32))) (Vq : Arv Z h0 r1 kb .int (6 : Int32) ([d0, d1, d2, d3, d4, d5].map own_V) (.int (0 : Int32))) :
    MetFree l (⟨"com/example/rollhaus/rollhaus/zehntausend/TurnThrownPinLaw", "same", "([I[I)Z"⟩ : MethodName) (head1 (Jvm.Cond.code (⟨"com/example/rollhaus/rollhaus/zehntausend/TurnThrownPinLaw", "same", "([I[I)Z"⟩ : MethodName) method_4_code 2 (some .boolean) :: ws) ({ frames := 0, cells := 0, slots := 0, locals := 0 } : Room)) (fun a U => a = #[(.ref r0), (.ref r1)] ∧ Z.Warmed39 U.vm ∧ U.heap = h0) (fun _ _ _ _ _ => True) (fun _ U o U' => ∃ v L, o = .returned v ∧ Qsm Z r0 r1 ka kb d0 d1 d2 d3 d4 d5 h0 n0 v U'.heap L ∧ FrameEnd U o U' L ({ frames := 0, cells := 0, slots := 0, locals := 0 } : Room).cells ({ frames := 0, cells := 0, slots := 0, locals := 0 } : Room).slots) := by
  refine MetFree.of_bodySF (plainFor_of_name pnsm) hisR ?_
  intro p e s m args below meth c s₁ Bd hml0 hP hK
  obtain ⟨rfl, hZ, hh⟩ := hP
  have hx := Bd.exec
  have hby := Bd.bytes
  have hml : c.maxLocals = 2 := hml0
  have hown : s.vm.findClass "com/example/rollhaus/rollhaus/zehntausend/TurnThrownPinLaw" = some m.cls := findClass_of_methodNamed Bd.named
  have hnm := (name_of_methodNamed Bd.named Bd.method).1
  have X0 : Stand p l e ({ frames := 0, cells := 0, slots := 0, locals := 0 } : Room) s m #[(.ref r0), (.ref r1)] below meth c s₁ [] 0 0 := Stand.of_body Bd
  have e0 : s₁.heap = h0 := by rw [← hh, Bd.state]; rfl
  have N0 := Fr.nil n0
  have K0 : Keep h0 h0 [] := Keep.refl h0 _
  refine own_in ?_
  refine own_go (B := s₁.setTop (mkF m 0 #[.val (.ref r0), .val (.ref r1)] [])) (fun t k => castTop (efsm m r0 r1) k) ?_
  refine own_go (B := s₁.setTop (mkF m 5 #[.val (.ref r0), .val (.ref r1)] [(.ref r0)])) (fun t k => ?_) ?_
  · show Steps p.tables e below (s₁.setTop (mkF m 0 #[.val (.ref r0), .val (.ref r1)] [])) t
    refine XS.aloadN X0.here hx rfl (hb hby dsm_0) rfl rfl ?_
    refine XS.ifnullNo X0.here hx rfl (hb hby dsm_1) rfl ?_
    refine XS.aloadN X0.here hx rfl (hb hby dsm_4) rfl rfl ?_
    exact k
  obtain ⟨cl1, Ar1, -, S1, M1, -, -⟩ := id V0
  refine own_go (B := s₁.setTop (mkF m 6 #[.val (.ref r0), .val (.ref r1)] [(.int (6 : Int32))])) (fun t k => ?_) ?_
  · refine X0.arraylength hx (by first | exact Ar1.1 | (rw [e0]; exact Ar1.1)) (State.isArrayOf_alike hZ.alike Ar1.2.1) (g := (mkF m 5 #[.val (.ref r0), .val (.ref r1)] [(.ref r0)])) rfl rfl (hb hby dsm_5) _ ?_
    rw [len_of S1 M1]
    exact k
  refine own_go (B := s₁.setTop (mkF m 13 #[.val (.ref r0), .val (.ref r1)] [(.int (0 : Int32)), (.ref r0)])) (fun t k => ?_) ?_
  · show Steps p.tables e below (s₁.setTop (mkF m 6 #[.val (.ref r0), .val (.ref r1)] [(.int (6 : Int32))])) t
    refine XS.bipush X0.here hx rfl (hb hby dsm_6) ?_
    refine XS.icmpNo X0.here hx rfl (hb hby dsm_8) rfl (teq (rfl : (6 : Int32) = (6 : Int32))).2 ?_
    refine XS.aloadN X0.here hx rfl (hb hby dsm_11) rfl rfl ?_
    refine XS.iconst X0.here hx rfl (hb hby dsm_12) ?_
    exact k
  obtain ⟨cl2, Ar2, -, S2, M2, Ha2, G2⟩ := id V0
  have hin2 : ¬ ((0 : Int32) < 0 ∨ cl2.slots.size ≤ ((0 : Int32)).toNatClampNeg) := inb_of S2 ⟨by decide, by decide⟩
  have hat2 : cl2.slots[((0 : Int32)).toNatClampNeg]? = some (.int (own_I d0)) := Has.at Ha2 hin2 rfl
  refine own_go (B := s₁.setTop (mkF m 14 #[.val (.ref r0), .val (.ref r1)] [(.int (own_I d0))])) (fun t k => ?_) ?_
  · exact X0.iaload hx (j := (0 : Int32)) (v := (.int (own_I d0))) (by first | exact Ar2.1 | (rw [e0]; exact Ar2.1)) (State.isArrayOf_alike hZ.alike Ar2.2.1) Ar2.2.2 hin2 hat2 (g := (mkF m 13 #[.val (.ref r0), .val (.ref r1)] [(.int (0 : Int32)), (.ref r0)])) rfl rfl (hb hby dsm_13) _ k
  refine own_go (B := s₁.setTop (mkF m 16 #[.val (.ref r0), .val (.ref r1)] [(.int (0 : Int32)), (.ref r1), (.int (own_I d0))])) (fun t k => ?_) ?_
  · show Steps p.tables e below (s₁.setTop (mkF m 14 #[.val (.ref r0), .val (.ref r1)] [(.int (own_I d0))])) t
    refine XS.aloadN X0.here hx rfl (hb hby dsm_14) rfl rfl ?_
    refine XS.iconst X0.here hx rfl (hb hby dsm_15) ?_
    exact k
  obtain ⟨cl3, Ar3, -, S3, M3, Ha3, G3⟩ := id Vq
  have hin3 : ¬ ((0 : Int32) < 0 ∨ cl3.slots.size ≤ ((0 : Int32)).toNatClampNeg) := inb_of S3 ⟨by decide, by decide⟩
  have hat3 : cl3.slots[((0 : Int32)).toNatClampNeg]? = some (.int (own_I d0)) := Has.at Ha3 hin3 rfl
  refine own_go (B := s₁.setTop (mkF m 17 #[.val (.ref r0), .val (.ref r1)] [(.int (own_I d0)), (.int (own_I d0))])) (fun t k => ?_) ?_
  · exact X0.iaload hx (j := (0 : Int32)) (v := (.int (own_I d0))) (by first | exact Ar3.1 | (rw [e0]; exact Ar3.1)) (State.isArrayOf_alike hZ.alike Ar3.2.1) Ar3.2.2 hin3 hat3 (g := (mkF m 16 #[.val (.ref r0), .val (.ref r1)] [(.int (0 : Int32)), (.ref r1), (.int (own_I d0))])) rfl rfl (hb hby dsm_16) _ k
  refine own_go (B := s₁.setTop (mkF m 22 #[.val (.ref r0), .val (.ref r1)] [(.int (1 : Int32)), (.ref r0)])) (fun t k => ?_) ?_
  · show Steps p.tables e below (s₁.setTop (mkF m 17 #[.val (.ref r0), .val (.ref r1)] [(.int (own_I d0)), (.int (own_I d0))])) t
    refine XS.icmpNo X0.here hx rfl (hb hby dsm_17) rfl (teq (rfl : (own_I d0) = (own_I d0))).2 ?_
    refine XS.aloadN X0.here hx rfl (hb hby dsm_20) rfl rfl ?_
    refine XS.iconst X0.here hx rfl (hb hby dsm_21) ?_
    exact k
  obtain ⟨cl4, Ar4, -, S4, M4, Ha4, G4⟩ := id V0
  have hin4 : ¬ ((1 : Int32) < 0 ∨ cl4.slots.size ≤ ((1 : Int32)).toNatClampNeg) := inb_of S4 ⟨by decide, by decide⟩
  have hat4 : cl4.slots[((1 : Int32)).toNatClampNeg]? = some (.int (own_I d1)) := Has.at Ha4 hin4 rfl
  refine own_go (B := s₁.setTop (mkF m 23 #[.val (.ref r0), .val (.ref r1)] [(.int (own_I d1))])) (fun t k => ?_) ?_
  · exact X0.iaload hx (j := (1 : Int32)) (v := (.int (own_I d1))) (by first | exact Ar4.1 | (rw [e0]; exact Ar4.1)) (State.isArrayOf_alike hZ.alike Ar4.2.1) Ar4.2.2 hin4 hat4 (g := (mkF m 22 #[.val (.ref r0), .val (.ref r1)] [(.int (1 : Int32)), (.ref r0)])) rfl rfl (hb hby dsm_22) _ k
  refine own_go (B := s₁.setTop (mkF m 25 #[.val (.ref r0), .val (.ref r1)] [(.int (1 : Int32)), (.ref r1), (.int (own_I d1))])) (fun t k => ?_) ?_
  · show Steps p.tables e below (s₁.setTop (mkF m 23 #[.val (.ref r0), .val (.ref r1)] [(.int (own_I d1))])) t
    refine XS.aloadN X0.here hx rfl (hb hby dsm_23) rfl rfl ?_
    refine XS.iconst X0.here hx rfl (hb hby dsm_24) ?_
    exact k
  obtain ⟨cl5, Ar5, -, S5, M5, Ha5, G5⟩ := id Vq
  have hin5 : ¬ ((1 : Int32) < 0 ∨ cl5.slots.size ≤ ((1 : Int32)).toNatClampNeg) := inb_of S5 ⟨by decide, by decide⟩
  have hat5 : cl5.slots[((1 : Int32)).toNatClampNeg]? = some (.int (own_I d1)) := Has.at Ha5 hin5 rfl
  refine own_go (B := s₁.setTop (mkF m 26 #[.val (.ref r0), .val (.ref r1)] [(.int (own_I d1)), (.int (own_I d1))])) (fun t k => ?_) ?_
  · exact X0.iaload hx (j := (1 : Int32)) (v := (.int (own_I d1))) (by first | exact Ar5.1 | (rw [e0]; exact Ar5.1)) (State.isArrayOf_alike hZ.alike Ar5.2.1) Ar5.2.2 hin5 hat5 (g := (mkF m 25 #[.val (.ref r0), .val (.ref r1)] [(.int (1 : Int32)), (.ref r1), (.int (own_I d1))])) rfl rfl (hb hby dsm_25) _ k
  refine own_go (B := s₁.setTop (mkF m 31 #[.val (.ref r0), .val (.ref r1)] [(.int (2 : Int32)), (.ref r0)])) (fun t k => ?_) ?_
  · show Steps p.tables e below (s₁.setTop (mkF m 26 #[.val (.ref r0), .val (.ref r1)] [(.int (own_I d1)), (.int (own_I d1))])) t
    refine XS.icmpNo X0.here hx rfl (hb hby dsm_26) rfl (teq (rfl : (own_I d1) = (own_I d1))).2 ?_
    refine XS.aloadN X0.here hx rfl (hb hby dsm_29) rfl rfl ?_
    refine XS.iconst X0.here hx rfl (hb hby dsm_30) ?_
    exact k
  obtain ⟨cl6, Ar6, -, S6, M6, Ha6, G6⟩ := id V0
  have hin6 : ¬ ((2 : Int32) < 0 ∨ cl6.slots.size ≤ ((2 : Int32)).toNatClampNeg) := inb_of S6 ⟨by decide, by decide⟩
  have hat6 : cl6.slots[((2 : Int32)).toNatClampNeg]? = some (.int (own_I d2)) := Has.at Ha6 hin6 rfl
  refine own_go (B := s₁.setTop (mkF m 32 #[.val (.ref r0), .val (.ref r1)] [(.int (own_I d2))])) (fun t k => ?_) ?_
  · exact X0.iaload hx (j := (2 : Int32)) (v := (.int (own_I d2))) (by first | exact Ar6.1 | (rw [e0]; exact Ar6.1)) (State.isArrayOf_alike hZ.alike Ar6.2.1) Ar6.2.2 hin6 hat6 (g := (mkF m 31 #[.val (.ref r0), .val (.ref r1)] [(.int (2 : Int32)), (.ref r0)])) rfl rfl (hb hby dsm_31) _ k
  refine own_go (B := s₁.setTop (mkF m 34 #[.val (.ref r0), .val (.ref r1)] [(.int (2 : Int32)), (.ref r1), (.int (own_I d2))])) (fun t k => ?_) ?_
  · show Steps p.tables e below (s₁.setTop (mkF m 32 #[.val (.ref r0), .val (.ref r1)] [(.int (own_I d2))])) t
    refine XS.aloadN X0.here hx rfl (hb hby dsm_32) rfl rfl ?_
    refine XS.iconst X0.here hx rfl (hb hby dsm_33) ?_
    exact k
  obtain ⟨cl7, Ar7, -, S7, M7, Ha7, G7⟩ := id Vq
  have hin7 : ¬ ((2 : Int32) < 0 ∨ cl7.slots.size ≤ ((2 : Int32)).toNatClampNeg) := inb_of S7 ⟨by decide, by decide⟩
  have hat7 : cl7.slots[((2 : Int32)).toNatClampNeg]? = some (.int (own_I d2)) := Has.at Ha7 hin7 rfl
  refine own_go (B := s₁.setTop (mkF m 35 #[.val (.ref r0), .val (.ref r1)] [(.int (own_I d2)), (.int (own_I d2))])) (fun t k => ?_) ?_
  · exact X0.iaload hx (j := (2 : Int32)) (v := (.int (own_I d2))) (by first | exact Ar7.1 | (rw [e0]; exact Ar7.1)) (State.isArrayOf_alike hZ.alike Ar7.2.1) Ar7.2.2 hin7 hat7 (g := (mkF m 34 #[.val (.ref r0), .val (.ref r1)] [(.int (2 : Int32)), (.ref r1), (.int (own_I d2))])) rfl rfl (hb hby dsm_34) _ k
  refine own_go (B := s₁.setTop (mkF m 40 #[.val (.ref r0), .val (.ref r1)] [(.int (3 : Int32)), (.ref r0)])) (fun t k => ?_) ?_
  · show Steps p.tables e below (s₁.setTop (mkF m 35 #[.val (.ref r0), .val (.ref r1)] [(.int (own_I d2)), (.int (own_I d2))])) t
    refine XS.icmpNo X0.here hx rfl (hb hby dsm_35) rfl (teq (rfl : (own_I d2) = (own_I d2))).2 ?_
    refine XS.aloadN X0.here hx rfl (hb hby dsm_38) rfl rfl ?_
    refine XS.iconst X0.here hx rfl (hb hby dsm_39) ?_
    exact k
  obtain ⟨cl8, Ar8, -, S8, M8, Ha8, G8⟩ := id V0
  have hin8 : ¬ ((3 : Int32) < 0 ∨ cl8.slots.size ≤ ((3 : Int32)).toNatClampNeg) := inb_of S8 ⟨by decide, by decide⟩
  have hat8 : cl8.slots[((3 : Int32)).toNatClampNeg]? = some (.int (own_I d3)) := Has.at Ha8 hin8 rfl
  refine own_go (B := s₁.setTop (mkF m 41 #[.val (.ref r0), .val (.ref r1)] [(.int (own_I d3))])) (fun t k => ?_) ?_
  · exact X0.iaload hx (j := (3 : Int32)) (v := (.int (own_I d3))) (by first | exact Ar8.1 | (rw [e0]; exact Ar8.1)) (State.isArrayOf_alike hZ.alike Ar8.2.1) Ar8.2.2 hin8 hat8 (g := (mkF m 40 #[.val (.ref r0), .val (.ref r1)] [(.int (3 : Int32)), (.ref r0)])) rfl rfl (hb hby dsm_40) _ k
  refine own_go (B := s₁.setTop (mkF m 43 #[.val (.ref r0), .val (.ref r1)] [(.int (3 : Int32)), (.ref r1), (.int (own_I d3))])) (fun t k => ?_) ?_
  · show Steps p.tables e below (s₁.setTop (mkF m 41 #[.val (.ref r0), .val (.ref r1)] [(.int (own_I d3))])) t
    refine XS.aloadN X0.here hx rfl (hb hby dsm_41) rfl rfl ?_
    refine XS.iconst X0.here hx rfl (hb hby dsm_42) ?_
    exact k
  obtain ⟨cl9, Ar9, -, S9, M9, Ha9, G9⟩ := id Vq
  have hin9 : ¬ ((3 : Int32) < 0 ∨ cl9.slots.size ≤ ((3 : Int32)).toNatClampNeg) := inb_of S9 ⟨by decide, by decide⟩
  have hat9 : cl9.slots[((3 : Int32)).toNatClampNeg]? = some (.int (own_I d3)) := Has.at Ha9 hin9 rfl
  refine own_go (B := s₁.setTop (mkF m 44 #[.val (.ref r0), .val (.ref r1)] [(.int (own_I d3)), (.int (own_I d3))])) (fun t k => ?_) ?_
  · exact X0.iaload hx (j := (3 : Int32)) (v := (.int (own_I d3))) (by first | exact Ar9.1 | (rw [e0]; exact Ar9.1)) (State.isArrayOf_alike hZ.alike Ar9.2.1) Ar9.2.2 hin9 hat9 (g := (mkF m 43 #[.val (.ref r0), .val (.ref r1)] [(.int (3 : Int32)), (.ref r1), (.int (own_I d3))])) rfl rfl (hb hby dsm_43) _ k
  refine own_go (B := s₁.setTop (mkF m 49 #[.val (.ref r0), .val (.ref r1)] [(.int (4 : Int32)), (.ref r0)])) (fun t k => ?_) ?_
  · show Steps p.tables e below (s₁.setTop (mkF m 44 #[.val (.ref r0), .val (.ref r1)] [(.int (own_I d3)), (.int (own_I d3))])) t
    refine XS.icmpNo X0.here hx rfl (hb hby dsm_44) rfl (teq (rfl : (own_I d3) = (own_I d3))).2 ?_
    refine XS.aloadN X0.here hx rfl (hb hby dsm_47) rfl rfl ?_
    refine XS.iconst X0.here hx rfl (hb hby dsm_48) ?_
    exact k
  obtain ⟨cl10, Ar10, -, S10, M10, Ha10, G10⟩ := id V0
  have hin10 : ¬ ((4 : Int32) < 0 ∨ cl10.slots.size ≤ ((4 : Int32)).toNatClampNeg) := inb_of S10 ⟨by decide, by decide⟩
  have hat10 : cl10.slots[((4 : Int32)).toNatClampNeg]? = some (.int (own_I d4)) := Has.at Ha10 hin10 rfl
  refine own_go (B := s₁.setTop (mkF m 50 #[.val (.ref r0), .val (.ref r1)] [(.int (own_I d4))])) (fun t k => ?_) ?_
  · exact X0.iaload hx (j := (4 : Int32)) (v := (.int (own_I d4))) (by first | exact Ar10.1 | (rw [e0]; exact Ar10.1)) (State.isArrayOf_alike hZ.alike Ar10.2.1) Ar10.2.2 hin10 hat10 (g := (mkF m 49 #[.val (.ref r0), .val (.ref r1)] [(.int (4 : Int32)), (.ref r0)])) rfl rfl (hb hby dsm_49) _ k
  refine own_go (B := s₁.setTop (mkF m 52 #[.val (.ref r0), .val (.ref r1)] [(.int (4 : Int32)), (.ref r1), (.int (own_I d4))])) (fun t k => ?_) ?_
  · show Steps p.tables e below (s₁.setTop (mkF m 50 #[.val (.ref r0), .val (.ref r1)] [(.int (own_I d4))])) t
    refine XS.aloadN X0.here hx rfl (hb hby dsm_50) rfl rfl ?_
    refine XS.iconst X0.here hx rfl (hb hby dsm_51) ?_
    exact k
  obtain ⟨cl11, Ar11, -, S11, M11, Ha11, G11⟩ := id Vq
  have hin11 : ¬ ((4 : Int32) < 0 ∨ cl11.slots.size ≤ ((4 : Int32)).toNatClampNeg) := inb_of S11 ⟨by decide, by decide⟩
  have hat11 : cl11.slots[((4 : Int32)).toNatClampNeg]? = some (.int (own_I d4)) := Has.at Ha11 hin11 rfl
  refine own_go (B := s₁.setTop (mkF m 53 #[.val (.ref r0), .val (.ref r1)] [(.int (own_I d4)), (.int (own_I d4))])) (fun t k => ?_) ?_
  · exact X0.iaload hx (j := (4 : Int32)) (v := (.int (own_I d4))) (by first | exact Ar11.1 | (rw [e0]; exact Ar11.1)) (State.isArrayOf_alike hZ.alike Ar11.2.1) Ar11.2.2 hin11 hat11 (g := (mkF m 52 #[.val (.ref r0), .val (.ref r1)] [(.int (4 : Int32)), (.ref r1), (.int (own_I d4))])) rfl rfl (hb hby dsm_52) _ k
  refine own_go (B := s₁.setTop (mkF m 58 #[.val (.ref r0), .val (.ref r1)] [(.int (5 : Int32)), (.ref r0)])) (fun t k => ?_) ?_
  · show Steps p.tables e below (s₁.setTop (mkF m 53 #[.val (.ref r0), .val (.ref r1)] [(.int (own_I d4)), (.int (own_I d4))])) t
    refine XS.icmpNo X0.here hx rfl (hb hby dsm_53) rfl (teq (rfl : (own_I d4) = (own_I d4))).2 ?_
    refine XS.aloadN X0.here hx rfl (hb hby dsm_56) rfl rfl ?_
    refine XS.iconst X0.here hx rfl (hb hby dsm_57) ?_
    exact k
  obtain ⟨cl12, Ar12, -, S12, M12, Ha12, G12⟩ := id V0
  have hin12 : ¬ ((5 : Int32) < 0 ∨ cl12.slots.size ≤ ((5 : Int32)).toNatClampNeg) := inb_of S12 ⟨by decide, by decide⟩
  have hat12 : cl12.slots[((5 : Int32)).toNatClampNeg]? = some (.int (own_I d5)) := Has.at Ha12 hin12 rfl
  refine own_go (B := s₁.setTop (mkF m 59 #[.val (.ref r0), .val (.ref r1)] [(.int (own_I d5))])) (fun t k => ?_) ?_
  · exact X0.iaload hx (j := (5 : Int32)) (v := (.int (own_I d5))) (by first | exact Ar12.1 | (rw [e0]; exact Ar12.1)) (State.isArrayOf_alike hZ.alike Ar12.2.1) Ar12.2.2 hin12 hat12 (g := (mkF m 58 #[.val (.ref r0), .val (.ref r1)] [(.int (5 : Int32)), (.ref r0)])) rfl rfl (hb hby dsm_58) _ k
  refine own_go (B := s₁.setTop (mkF m 61 #[.val (.ref r0), .val (.ref r1)] [(.int (5 : Int32)), (.ref r1), (.int (own_I d5))])) (fun t k => ?_) ?_
  · show Steps p.tables e below (s₁.setTop (mkF m 59 #[.val (.ref r0), .val (.ref r1)] [(.int (own_I d5))])) t
    refine XS.aloadN X0.here hx rfl (hb hby dsm_59) rfl rfl ?_
    refine XS.iconst X0.here hx rfl (hb hby dsm_60) ?_
    exact k
  obtain ⟨cl13, Ar13, -, S13, M13, Ha13, G13⟩ := id Vq
  have hin13 : ¬ ((5 : Int32) < 0 ∨ cl13.slots.size ≤ ((5 : Int32)).toNatClampNeg) := inb_of S13 ⟨by decide, by decide⟩
  have hat13 : cl13.slots[((5 : Int32)).toNatClampNeg]? = some (.int (own_I d5)) := Has.at Ha13 hin13 rfl
  refine own_go (B := s₁.setTop (mkF m 62 #[.val (.ref r0), .val (.ref r1)] [(.int (own_I d5)), (.int (own_I d5))])) (fun t k => ?_) ?_
  · exact X0.iaload hx (j := (5 : Int32)) (v := (.int (own_I d5))) (by first | exact Ar13.1 | (rw [e0]; exact Ar13.1)) (State.isArrayOf_alike hZ.alike Ar13.2.1) Ar13.2.2 hin13 hat13 (g := (mkF m 61 #[.val (.ref r0), .val (.ref r1)] [(.int (5 : Int32)), (.ref r1), (.int (own_I d5))])) rfl rfl (hb hby dsm_61) _ k
  refine own_go (B := s₁.setTop (mkF m 70 #[.val (.ref r0), .val (.ref r1)] [(.int (1 : Int32))])) (fun t k => ?_) ?_
  · show Steps p.tables e below (s₁.setTop (mkF m 62 #[.val (.ref r0), .val (.ref r1)] [(.int (own_I d5)), (.int (own_I d5))])) t
    refine XS.icmpNo X0.here hx rfl (hb hby dsm_62) rfl (teq (rfl : (own_I d5) = (own_I d5))).2 ?_
    refine XS.iconst X0.here hx rfl (hb hby dsm_65) ?_
    refine XS.goto X0.here hx rfl (pc0 := 66) (pc' := 70) rfl (hb hby dsm_66) (by decide) (by decide) ?_
    exact k
  obtain ⟨fs, hr, hrun, hended, hW, hsame⟩ := X0.leave (v := some (.int (1 : Int32))) (fun h => by rw [Bd.returns] at h; cases h)
  refine ⟨_, _, ?_, hrun, hended, _, _, rfl, ?_, ⟨_, rfl⟩, hW, hsame.mono (by decide) (by decide)⟩
  · exact retOut X0 hx (t := .boolean) Bd.returns rfl (Or.inl ⟨rfl, by simp, _, rfl⟩) (hb hby dsm_70) hr
  · show Qsm Z r0 r1 ka kb d0 d1 d2 d3 d4 d5 h0 n0 _ s₁.heap _
    rw [e0]
    exact ⟨rfl, N0, rfl⟩
theorem dfa_0 : decode method_3_code 0 = .ok (.iload_n 0, 1) := by decide +kernel
theorem dfa_1 : decode method_3_code 1 = .ok (.ldc 41, 2) := by decide +kernel
theorem dfa_3 : decode method_3_code 3 = .ok (.iand, 1) := by decide +kernel
theorem dfa_4 : decode method_3_code 4 = .ok (.bipush 6, 2) := by decide +kernel
theorem dfa_6 : decode method_3_code 6 = .ok (.irem, 1) := by decide +kernel
theorem dfa_7 : decode method_3_code 7 = .ok (.iconst 1, 1) := by decide +kernel
theorem dfa_8 : decode method_3_code 8 = .ok (.iadd, 1) := by decide +kernel
theorem dfa_9 : decode method_3_code 9 = .ok (.ireturn, 1) := by decide +kernel
theorem pnfa : plainName "com/example/rollhaus/rollhaus/zehntausend/TurnThrownPinLaw" = true := by first | (simp [plainName, overriddenIn]; done) | decide +kernel
theorem effa (m : MethodId) (z0 : Int32) : entryFrame m #[(.int z0)] 1 = mkF m 0 #[.val (.int z0)] [] := by first | (simp [entryFrame, mkF, argsToLocals, Value.category]; done) | rfl
def Qfa (Z : State) (p0 : Int32) (h0 : Heap) (n0 : Nat) (v : Option Value) (h : Heap) (L : List Loc) : Prop := ∃ kk : Nat, 1 ≤ kk ∧ kk ≤ 6 ∧ v = some (.int (own_I kk)) ∧ Fr n0 L ∧ h = h0
set_option maxRecDepth 65536 in
set_option maxHeartbeats 40000000 in
theorem rmfa (l : Launch) (Z : State) (a0 : Array Value) (hw : ∀ d ∈ tables_1, d.before a0 Z = true) (ws : List Jvm.Cond) (p0 : Int32) (h0 : Heap) (n0 : Nat) (Z0 : n0 ≤ h0.size) :
    MetFree l (⟨"com/example/rollhaus/rollhaus/zehntausend/TurnThrownPinLaw", "face", "(I)I"⟩ : MethodName) (head1 (Jvm.Cond.code (⟨"com/example/rollhaus/rollhaus/zehntausend/TurnThrownPinLaw", "face", "(I)I"⟩ : MethodName) method_3_code 1 (some .int) :: ws) ({ frames := 0, cells := 0, slots := 0, locals := 0 } : Room)) (fun a U => a = #[(.int p0)] ∧ Z.Warmed39 U.vm ∧ U.heap = h0) (fun _ _ _ _ _ => True) (fun _ U o U' => ∃ v L, o = .returned v ∧ Qfa Z p0 h0 n0 v U'.heap L ∧ FrameEnd U o U' L ({ frames := 0, cells := 0, slots := 0, locals := 0 } : Room).cells ({ frames := 0, cells := 0, slots := 0, locals := 0 } : Room).slots) := by
  refine MetFree.of_bodySF (plainFor_of_name pnfa) hisR ?_
  intro p e s m args below meth c s₁ Bd hml0 hP hK
  obtain ⟨rfl, hZ, hh⟩ := hP
  have hx := Bd.exec
  have hby := Bd.bytes
  have hml : c.maxLocals = 1 := hml0
  have hown : s.vm.findClass "com/example/rollhaus/rollhaus/zehntausend/TurnThrownPinLaw" = some m.cls := findClass_of_methodNamed Bd.named
  have hnm := (name_of_methodNamed Bd.named Bd.method).1
  have X0 : Stand p l e ({ frames := 0, cells := 0, slots := 0, locals := 0 } : Room) s m #[(.int p0)] below meth c s₁ [] 0 0 := Stand.of_body Bd
  have e0 : s₁.heap = h0 := by rw [← hh, Bd.state]; rfl
  have N0 := Fr.nil n0
  have K0 : Keep h0 h0 [] := Keep.refl h0 _
  refine own_in ?_
  refine own_go (B := s₁.setTop (mkF m 0 #[.val (.int p0)] [])) (fun t k => castTop (effa m p0) k) ?_
  refine own_go (B := s₁.setTop (mkF m 9 #[.val (.int p0)] [(.int (((p0 &&& (2147483647 : Int32)) % (6 : Int32)) + (1 : Int32)))])) (fun t k => ?_) ?_
  · show Steps p.tables e below (s₁.setTop (mkF m 0 #[.val (.int p0)] [])) t
    refine XS.iloadN X0.here hx rfl (hb hby dfa_0) rfl ?_
    refine X0.ldcI hx hown (mvT hZ (hw _ (List.mem_of_getElem? (i := 5) rfl))) rfl (hb hby dfa_1) ?_
    refine XS.iand X0.here hx rfl (hb hby dfa_3) rfl ?_
    refine XS.bipush X0.here hx rfl (hb hby dfa_4) ?_
    show Steps p.tables e below (s₁.setTop (mkF m 6 #[.val (.int p0)] [(.int (6 : Int32)), (.int (p0 &&& (2147483647 : Int32)))])) t
    refine Jvm.RoadKit.iremM X0 hx rfl (hb hby dfa_6) rfl (by decide) ?_
    refine XS.iconst X0.here hx rfl (hb hby dfa_7) ?_
    refine XS.iadd X0.here hx rfl (hb hby dfa_8) rfl ?_
    exact k
  obtain ⟨fs, hr, hrun, hended, hW, hsame⟩ := X0.leave (v := some (.int (((p0 &&& (2147483647 : Int32)) % (6 : Int32)) + (1 : Int32)))) (fun h => by rw [Bd.returns] at h; cases h)
  refine ⟨_, _, ?_, hrun, hended, _, _, rfl, ?_, ⟨_, rfl⟩, hW, hsame.mono (by decide) (by decide)⟩
  · exact retOut X0 hx (t := .int) Bd.returns rfl (Or.inl ⟨rfl, by simp, _, rfl⟩) (hb hby dfa_9) hr
  · show Qfa Z p0 h0 n0 _ s₁.heap _
    rw [e0]
    obtain ⟨kk, q1, q2, q3⟩ := own_face p0
    exact ⟨kk, q1, q2, congrArg (fun z => some (Value.int z)) q3, N0, rfl⟩
theorem dti_0 : decode prog_53_method_1_code 0 = .ok (.aload_n 0, 1) := by decide +kernel
theorem dti_1 : decode prog_53_method_1_code 1 = .ok (.invokespecial 1, 3) := by decide +kernel
theorem dti_4 : decode prog_53_method_1_code 4 = .ok (.aload_n 0, 1) := by decide +kernel
theorem dti_5 : decode prog_53_method_1_code 5 = .ok (.bipush 6, 2) := by decide +kernel
theorem dti_7 : decode prog_53_method_1_code 7 = .ok (.putfield 9, 3) := by decide +kernel
theorem dti_10 : decode prog_53_method_1_code 10 = .ok (.return_, 1) := by decide +kernel
theorem pnti : plainName "com/example/rollhaus/rollhaus/zehntausend/Turn" = true := by first | (simp [plainName, overriddenIn]; done) | decide +kernel
theorem efti (m : MethodId) (z0 : Addr) : entryFrame m #[(.ref z0)] 1 = mkF m 0 #[.val (.ref z0)] [] := by first | (simp [entryFrame, mkF, argsToLocals, Value.category]; done) | rfl
def Qti (Z : State) (r0 : Addr) (h0 : Heap) (n0 : Nat) (v : Option Value) (h : Heap) (L : List Loc) : Prop := v = none ∧ Fr n0 L ∧ Keep h0 h [r0] ∧ Exa Z h r0 "com/example/rollhaus/rollhaus/zehntausend/Turn" ∧ Fld Z h r0 "com/example/rollhaus/rollhaus/zehntausend/Turn" "left" "I" (.int (6 : Int32)) ∧ Fld Z h r0 "com/example/rollhaus/rollhaus/zehntausend/Turn" "points" "I" (.int (0 : Int32)) ∧ Fld Z h r0 "com/example/rollhaus/rollhaus/zehntausend/Turn" "thrown" "[I" .null
set_option maxRecDepth 65536 in
set_option maxHeartbeats 40000000 in
theorem rmti (l : Launch) (Z : State) (a0 : Array Value) (hw : ∀ d ∈ tables_1, d.before a0 Z = true) (ws : List Jvm.Cond) (r0 : Addr) (h0 : Heap) (n0 : Nat) (Z0 : n0 ≤ h0.size) (E_r0 : Exa Z h0 r0 "com/example/rollhaus/rollhaus/zehntausend/Turn") (g_r0 : n0 ≤ r0) (F_left_r0 : Fld Z h0 r0 "com/example/rollhaus/rollhaus/zehntausend/Turn" "left" "I" (.int (0 : Int32))) (F_thrown_r0 : Fld Z h0 r0 "com/example/rollhaus/rollhaus/zehntausend/Turn" "thrown" "[I" .null) (F_points_r0 : Fld Z h0 r0 "com/example/rollhaus/rollhaus/zehntausend/Turn" "points" "I" (.int (0 : Int32))) :
    MetFree l (⟨"com/example/rollhaus/rollhaus/zehntausend/Turn", "<init>", "()V"⟩ : MethodName) (head1 (Jvm.Cond.code (⟨"com/example/rollhaus/rollhaus/zehntausend/Turn", "<init>", "()V"⟩ : MethodName) prog_53_method_1_code 1 none :: ws) ({ frames := 1, cells := 0, slots := 0, locals := 14 } : Room)) (fun a U => a = #[(.ref r0)] ∧ Z.Warmed39 U.vm ∧ U.heap = h0) (fun _ _ _ _ _ => True) (fun _ U o U' => ∃ v L, o = .returned v ∧ Qti Z r0 h0 n0 v U'.heap L ∧ FrameEnd U o U' L ({ frames := 1, cells := 0, slots := 0, locals := 14 } : Room).cells ({ frames := 1, cells := 0, slots := 0, locals := 14 } : Room).slots) := by
  refine MetFree.of_bodySF (plainFor_of_name pnti) hisR ?_
  intro p e s m args below meth c s₁ Bd hml0 hP hK
  obtain ⟨rfl, hZ, hh⟩ := hP
  have hx := Bd.exec
  have hby := Bd.bytes
  have hml : c.maxLocals = 1 := hml0
  have hown : s.vm.findClass "com/example/rollhaus/rollhaus/zehntausend/Turn" = some m.cls := findClass_of_methodNamed Bd.named
  have hnm := (name_of_methodNamed Bd.named Bd.method).1
  have X0 : Stand p l e ({ frames := 1, cells := 0, slots := 0, locals := 14 } : Room) s m #[(.ref r0)] below meth c s₁ [] 0 0 := Stand.of_body Bd
  have e0 : s₁.heap = h0 := by rw [← hh, Bd.state]; rfl
  have N0 := Fr.nil n0
  have K0 : Keep h0 h0 [r0] := Keep.refl h0 _
  refine own_in ?_
  refine own_go (B := s₁.setTop (mkF m 0 #[.val (.ref r0)] [])) (fun t k => castTop (efti m r0) k) ?_
  refine own_go (B := s₁.setTop (mkF m 1 #[.val (.ref r0)] [(.ref r0)])) (fun t k => ?_) ?_
  · show Steps p.tables e below (s₁.setTop (mkF m 0 #[.val (.ref r0)] [])) t
    refine XS.aloadN X0.here hx rfl (hb hby dti_0) rfl rfl ?_
    exact k
  obtain ⟨T1, X1, e1, st1⟩ := initO X0 hx hZ hown (hw _ (List.mem_of_getElem? (i := 12) rfl)) (hw _ (List.mem_of_getElem? (i := 13) rfl)) (hw _ (List.mem_of_getElem? (i := 14) rfl)) e0 (g := (mkF m 1 #[.val (.ref r0)] [(.ref r0)])) rfl (by rw [hml]; rfl) rfl (hb hby dti_1) (by decide) (W := 0) (by show 2 * 0 + _ ≤ _; exact Nat.le_of_eq rfl) (by decide)
  refine own_go st1 ?_
  show own_Fin p.tables e below (T1.setTop (mkF m 4 #[.val (.ref r0)] [])) _
  refine own_go (B := T1.setTop (mkF m 7 #[.val (.ref r0)] [(.int (6 : Int32)), (.ref r0)])) (fun t k => ?_) ?_
  · show Steps p.tables e below (T1.setTop (mkF m 4 #[.val (.ref r0)] [])) t
    refine XS.aloadN X1.here hx rfl (hb hby dti_4) rfl rfl ?_
    refine XS.bipush X1.here hx rfl (hb hby dti_5) ?_
    exact k
  obtain ⟨T2, h2, X2, e2, W2, st2⟩ := putF X1 hx hZ hown (host := "") (Or.inl (hw _ (List.mem_of_getElem? (i := 15) rfl))) Via.refl e1 F_left_r0 E_r0 (Or.inl (hw _ (List.mem_of_getElem? (i := 16) rfl))) (hw _ (List.mem_of_getElem? (i := 7) rfl)) (ty := .int) (by decide) rfl rfl (g := (mkF m 7 #[.val (.ref r0)] [(.int (6 : Int32)), (.ref r0)])) rfl rfl (hb hby dti_7)
  have N2 := Fr.snoc X2 N0 g_r0
  have K2 : Keep h0 h2 [r0] := K0.wr W2 (Or.inl (by simp))
  have Fw2 := F_left_r0.same W2
  refine own_go st2 ?_
  show own_Fin p.tables e below (T2.setTop (mkF m 10 #[.val (.ref r0)] [])) _
  obtain ⟨fs, hr, hrun, hended, hW, hsame⟩ := X2.leave (v := none) (fun _ => rfl)
  refine ⟨_, _, ?_, hrun, hended, _, _, rfl, ?_, ⟨_, rfl⟩, hW, hsame.mono (by decide) (by decide)⟩
  · exact X2.returnOut hx Bd.returns (hb hby dti_10) hr
  · show Qti Z r0 h0 n0 _ T2.heap _
    rw [e2]
    have f4 := (E_r0.wr W2)
    have f5 := (F_points_r0.other W2 (Or.inr (slot_ne (Or.inl (hw _ (List.mem_of_getElem? (i := 112) rfl))) (Or.inl (hw _ (List.mem_of_getElem? (i := 16) rfl))) (by decide) (t := .int) (t' := .int) (by decide) (by decide))))
    have f6 := (F_thrown_r0.other W2 (Or.inr (slot_ne (Or.inl (hw _ (List.mem_of_getElem? (i := 23) rfl))) (Or.inl (hw _ (List.mem_of_getElem? (i := 16) rfl))) (by decide) (t := (.array .int)) (t' := .int) (by decide) (by decide))))
    exact ⟨rfl, N2, K2, f4, Fw2, f5, f6⟩
theorem dro_0 : decode prog_53_method_2_code 0 = .ok (.aload_n 0, 1) := by decide +kernel
theorem dro_1 : decode prog_53_method_2_code 1 = .ok (.getfield 15, 3) := by decide +kernel
theorem dro_4 : decode prog_53_method_2_code 4 = .ok (.ifnull 13, 3) := by decide +kernel
theorem dro_17 : decode prog_53_method_2_code 17 = .ok (.aload_n 1, 1) := by decide +kernel
theorem dro_18 : decode prog_53_method_2_code 18 = .ok (.arraylength, 1) := by decide +kernel
theorem dro_19 : decode prog_53_method_2_code 19 = .ok (.aload_n 0, 1) := by decide +kernel
theorem dro_20 : decode prog_53_method_2_code 20 = .ok (.getfield 9, 3) := by decide +kernel
theorem dro_23 : decode prog_53_method_2_code 23 = .ok (.if_icmp .eq 59, 3) := by decide +kernel
theorem dro_82 : decode prog_53_method_2_code 82 = .ok (.aload_n 1, 1) := by decide +kernel
theorem dro_83 : decode prog_53_method_2_code 83 = .ok (.invokestatic 40, 3) := by decide +kernel
theorem dro_86 : decode prog_53_method_2_code 86 = .ok (.astore_n 2, 1) := by decide +kernel
theorem dro_87 : decode prog_53_method_2_code 87 = .ok (.aload_n 0, 1) := by decide +kernel
theorem dro_88 : decode prog_53_method_2_code 88 = .ok (.aload_n 1, 1) := by decide +kernel
theorem dro_89 : decode prog_53_method_2_code 89 = .ok (.invokevirtual 44, 3) := by decide +kernel
theorem dro_92 : decode prog_53_method_2_code 92 = .ok (.checkcast 45, 3) := by decide +kernel
theorem dro_95 : decode prog_53_method_2_code 95 = .ok (.putfield 15, 3) := by decide +kernel
theorem dro_98 : decode prog_53_method_2_code 98 = .ok (.aload_n 2, 1) := by decide +kernel
theorem dro_99 : decode prog_53_method_2_code 99 = .ok (.areturn, 1) := by decide +kernel
theorem pnro : plainName "com/example/rollhaus/rollhaus/zehntausend/Turn" = true := by first | (simp [plainName, overriddenIn]; done) | decide +kernel
theorem pdro_0 : parseMethodDescriptor "([I)Lcom/example/rollhaus/rollhaus/zehntausend/Scoring;" = some ⟨[(.array .int)], some (.object "com/example/rollhaus/rollhaus/zehntausend/Scoring")⟩ := by decide +kernel
theorem efro (m : MethodId) (z0 : Addr) (z1 : Addr) : entryFrame m #[(.ref z0), (.ref z1)] 3 = mkF m 0 #[.val (.ref z0), .val (.ref z1), .unset] [] := by first | (simp [entryFrame, mkF, argsToLocals, Value.category]; done) | rfl
def Qro (Z : State) (r0 : Addr) (r1 : Addr) (s1 : Addr) (s3 : Addr) (kS : ClassId) (kT : ClassId) (kc : ClassId) (ds : List Nat) (cl : List Nat) (h0 : Heap) (n0 : Nat) (v : Option Value) (h : Heap) (L : List Loc) : Prop := ∃ (x t : Addr) (kt : ClassId) (u : Addr) (ku : ClassId), v = some (.ref x) ∧ Fr n0 L ∧ Keep h0 h [r0] ∧ h0.size ≤ x ∧ h0.size ≤ t ∧ x ≠ t ∧ Exa Z h x "com/example/rollhaus/rollhaus/zehntausend/Scoring" ∧ Fld Z h x "com/example/rollhaus/rollhaus/zehntausend/Scoring" "points" "I" (.int (own_I (own_res cl).1)) ∧ Fld Z h x "com/example/rollhaus/rollhaus/zehntausend/Scoring" "dice" "[I" (.ref t) ∧ Exa Z h t "[I" ∧ Arv Z h t kt .int (own_I (own_res cl).2.length) ((own_res cl).2.map own_V) (.int (0 : Int32)) ∧ h0.size ≤ u ∧ Exa Z h u "[I" ∧ Arv Z h u ku .int (6 : Int32) (ds.map own_V) (.int (0 : Int32)) ∧ Exa Z h r0 "com/example/rollhaus/rollhaus/zehntausend/Turn" ∧ Fld Z h r0 "com/example/rollhaus/rollhaus/zehntausend/Turn" "thrown" "[I" (.ref u) ∧ Fld Z h r0 "com/example/rollhaus/rollhaus/zehntausend/Turn" "left" "I" (.int (6 : Int32)) ∧ Fld Z h r0 "com/example/rollhaus/rollhaus/zehntausend/Turn" "points" "I" (.int (0 : Int32))
set_option maxRecDepth 65536 in
set_option maxHeartbeats 40000000 in
theorem rmro (l : Launch) (Z : State) (a0 : Array Value) (hw : ∀ d ∈ tables_1, d.before a0 Z = true) (ws : List Jvm.Cond) (r0 : Addr) (r1 : Addr) (s1 : Addr) (s3 : Addr) (kS : ClassId) (kT : ClassId) (kc : ClassId) (ds : List Nat) (cl : List Nat) (h0 : Heap) (n0 : Nat) (Z0 : n0 ≤ h0.size) (O0 : Old Z n0 h0) (Ssg : Sta Z Z.heap "com/example/rollhaus/rollhaus/zehntausend/Scoring" "SINGLE" "[I" (.ref s1)) (Sth : Sta Z Z.heap "com/example/rollhaus/rollhaus/zehntausend/Scoring" "THREE_ALIKE" "[I" (.ref s3)) (Vsg : Arv Z h0 s1 kS .int (7 : Int32) (own_S.map own_V) (.int (0 : Int32))) (Vth : Arv Z h0 s3 kT .int (7 : Int32) (own_T.map own_V) (.int (0 : Int32))) (Et : Exa Z h0 r0 "com/example/rollhaus/rollhaus/zehntausend/Turn") (gt : n0 ≤ r0) (Fth : Fld Z h0 r0 "com/example/rollhaus/rollhaus/zehntausend/Turn" "thrown" "[I" .null) (Fle : Fld Z h0 r0 "com/example/rollhaus/rollhaus/zehntausend/Turn" "left" "I" (.int (6 : Int32))) (Fpo : Fld Z h0 r0 "com/example/rollhaus/rollhaus/zehntausend/Turn" "points" "I" (.int (0 : Int32))) (V0 : Arv Z h0 r1 kc .int (6 : Int32) (ds.map own_V) (.int (0 : Int32))) (E0 : Exa Z h0 r1 "[I") (ner : r1 ≠ r0) (ne1 : s1 ≠ r0) (ne3 : s3 ≠ r0) (hds : ds.length = 6) (hd6 : ∀ d ∈ ds, 1 ≤ d ∧ d ≤ 6) (hcl : own_counts ds own_z7 = cl) (hc7 : cl.length = 7) (hrem : own_rem cl 6 1 = 6) :
    MetFree l (⟨"com/example/rollhaus/rollhaus/zehntausend/Turn", "roll", "([I)Lcom/example/rollhaus/rollhaus/zehntausend/Scoring;"⟩ : MethodName) (head1 (Jvm.Cond.code (⟨"com/example/rollhaus/rollhaus/zehntausend/Turn", "roll", "([I)Lcom/example/rollhaus/rollhaus/zehntausend/Scoring;"⟩ : MethodName) prog_53_method_2_code 3 (some (.object "com/example/rollhaus/rollhaus/zehntausend/Scoring")) :: ws) ({ frames := 3, cells := 5, slots := 27, locals := 90 } : Room)) (fun a U => a = #[(.ref r0), (.ref r1)] ∧ Z.Warmed39 U.vm ∧ U.heap = h0) (fun _ _ _ _ _ => True) (fun _ U o U' => ∃ v L, o = .returned v ∧ Qro Z r0 r1 s1 s3 kS kT kc ds cl h0 n0 v U'.heap L ∧ FrameEnd U o U' L ({ frames := 3, cells := 5, slots := 27, locals := 90 } : Room).cells ({ frames := 3, cells := 5, slots := 27, locals := 90 } : Room).slots) := by
  refine MetFree.of_bodySF (plainFor_of_name pnro) hisR ?_
  intro p e s m args below meth c s₁ Bd hml0 hP hK
  obtain ⟨rfl, hZ, hh⟩ := hP
  have hx := Bd.exec
  have hby := Bd.bytes
  have hml : c.maxLocals = 3 := hml0
  have hown : s.vm.findClass "com/example/rollhaus/rollhaus/zehntausend/Turn" = some m.cls := findClass_of_methodNamed Bd.named
  have hnm := (name_of_methodNamed Bd.named Bd.method).1
  have X0 : Stand p l e ({ frames := 3, cells := 5, slots := 27, locals := 90 } : Room) s m #[(.ref r0), (.ref r1)] below meth c s₁ [] 0 0 := Stand.of_body Bd
  have e0 : s₁.heap = h0 := by rw [← hh, Bd.state]; rfl
  have N0 := Fr.nil n0
  have K0 : Keep h0 h0 [r0] := Keep.refl h0 _
  refine own_in ?_
  refine own_go (B := s₁.setTop (mkF m 0 #[.val (.ref r0), .val (.ref r1), .unset] [])) (fun t k => castTop (efro m r0 r1) k) ?_
  refine own_go (B := s₁.setTop (mkF m 1 #[.val (.ref r0), .val (.ref r1), .unset] [(.ref r0)])) (fun t k => ?_) ?_
  · show Steps p.tables e below (s₁.setTop (mkF m 0 #[.val (.ref r0), .val (.ref r1), .unset] [])) t
    refine XS.aloadN X0.here hx rfl (hb hby dro_0) rfl rfl ?_
    exact k
  obtain ⟨T1, X1, e1, st1⟩ := getF X0 hx hZ hown (host := "") (Or.inl (hw _ (List.mem_of_getElem? (i := 22) rfl))) Via.refl e0 Fth (g := (mkF m 1 #[.val (.ref r0), .val (.ref r1), .unset] [(.ref r0)])) rfl rfl (hb hby dro_1)
  refine own_go st1 ?_
  show own_Fin p.tables e below (T1.setTop (mkF m 4 #[.val (.ref r0), .val (.ref r1), .unset] [.null])) _
  refine own_go (B := T1.setTop (mkF m 18 #[.val (.ref r0), .val (.ref r1), .unset] [(.ref r1)])) (fun t k => ?_) ?_
  · show Steps p.tables e below (T1.setTop (mkF m 4 #[.val (.ref r0), .val (.ref r1), .unset] [.null])) t
    refine XS.ifnullYes X1.here hx rfl (pc0 := 4) (pc' := 17) rfl (hb hby dro_4) rfl (by decide) (by decide) ?_
    refine XS.aloadN X1.here hx rfl (hb hby dro_17) rfl rfl ?_
    exact k
  obtain ⟨cl2, Ar2, -, S2, M2, -, -⟩ := id V0
  refine own_go (B := T1.setTop (mkF m 19 #[.val (.ref r0), .val (.ref r1), .unset] [(.int (6 : Int32))])) (fun t k => ?_) ?_
  · refine X1.arraylength hx (by first | exact Ar2.1 | (rw [e1]; exact Ar2.1)) (State.isArrayOf_alike hZ.alike Ar2.2.1) (g := (mkF m 18 #[.val (.ref r0), .val (.ref r1), .unset] [(.ref r1)])) rfl rfl (hb hby dro_18) _ ?_
    rw [len_of S2 M2]
    exact k
  refine own_go (B := T1.setTop (mkF m 20 #[.val (.ref r0), .val (.ref r1), .unset] [(.ref r0), (.int (6 : Int32))])) (fun t k => ?_) ?_
  · show Steps p.tables e below (T1.setTop (mkF m 19 #[.val (.ref r0), .val (.ref r1), .unset] [(.int (6 : Int32))])) t
    refine XS.aloadN X1.here hx rfl (hb hby dro_19) rfl rfl ?_
    exact k
  obtain ⟨T3, X3, e3, st3⟩ := getF X1 hx hZ hown (host := "") (Or.inl (hw _ (List.mem_of_getElem? (i := 15) rfl))) Via.refl e1 Fle (g := (mkF m 20 #[.val (.ref r0), .val (.ref r1), .unset] [(.ref r0), (.int (6 : Int32))])) rfl rfl (hb hby dro_20)
  refine own_go st3 ?_
  show own_Fin p.tables e below (T3.setTop (mkF m 23 #[.val (.ref r0), .val (.ref r1), .unset] [(.int (6 : Int32)), (.int (6 : Int32))])) _
  refine own_go (B := T3.setTop (mkF m 83 #[.val (.ref r0), .val (.ref r1), .unset] [(.ref r1)])) (fun t k => ?_) ?_
  · show Steps p.tables e below (T3.setTop (mkF m 23 #[.val (.ref r0), .val (.ref r1), .unset] [(.int (6 : Int32)), (.int (6 : Int32))])) t
    refine XS.icmpYes X3.here hx rfl (pc0 := 23) (pc' := 82) rfl (hb hby dro_23) rfl (teq (rfl : (6 : Int32) = (6 : Int32))).1 (by decide) (by decide) ?_
    refine XS.aloadN X3.here hx rfl (hb hby dro_82) rfl rfl ?_
    exact k
  obtain ⟨_, _, ⟨T4, L4, k4, n4⟩, -, X4, ⟨Lc4, hQ4, l4, y4, z4⟩, st4⟩ := Jvm.LawKit.callS X3 hx (y := (⟨"com/example/rollhaus/rollhaus/zehntausend/Scoring", "of", "([I)Lcom/example/rollhaus/rollhaus/zehntausend/Scoring;"⟩ : MethodName)) hown (mvT hZ (hw _ (List.mem_of_getElem? (i := 29) rfl))) (mvT hZ (hw _ (List.mem_of_getElem? (i := 30) rfl))) (mvT hZ (hw _ (List.mem_of_getElem? (i := 31) rfl))) (mvT hZ (hw _ (List.mem_of_getElem? (i := 32) rfl))) (by decide) (backOf (W := 0) (rmof l Z a0 hw [] r1 s1 s3 kS kT kc 6 ds cl h0 n0 Z0 O0 Ssg Sth Vsg Vth V0 hds (by decide) (by decide) hd6 hcl hc7 hrem) hZ (hw _ (List.mem_of_getElem? (i := 32) rfl)) (hw _ (List.mem_of_getElem? (i := 31) rfl)) (by decide) (by decide)) (g := (mkF m 83 #[.val (.ref r0), .val (.ref r1), .unset] [(.ref r1)])) rfl (by rw [hml]; rfl) (argsL := [(.ref r1)]) (rest := []) (lenOf pdro_0 rfl) rfl (by show 2 * 0 + _ ≤ _; exact Nat.le_of_eq rfl) (hb hby dro_83) (fun _ _ => ⟨rfl, e3, (by decide : 0 + 4 ≤ _), (by decide : 0 + 21 ≤ _)⟩)
  dsimp only [Pt.U, Pt.locs, Pt.cells, Pt.slots] at X4 l4 y4 z4 st4 hQ4
  subst y4 z4
  have X4 : Stand p l e ({ frames := 3, cells := 5, slots := 27, locals := 90 } : Room) s m #[(.ref r0), (.ref r1)] below meth c T4 _ 4 21 := X4
  obtain ⟨x4, t4, kt4, rfl, N4q, Kq4, lt_x4, lt_t4, ne_4, f4_0, f4_1, f4_2, f4_3, f4_4⟩ := hQ4
  have N4 : Fr n0 L4 := by rw [l4]; exact Fr.app N0 N4q
  have K4 : Keep h0 T4.heap [r0] := K0.trans Kq4 all0
  have sz_x4 : h0.size ≤ x4 := Nat.le_trans K0.1 lt_x4
  have g_x4 : n0 ≤ x4 := Nat.le_trans Z0 sz_x4
  have ne5 : s1 ≠ x4 := Nat.ne_of_lt (Nat.lt_of_lt_of_le Vsg.lt lt_x4)
  have ne6 : s3 ≠ x4 := Nat.ne_of_lt (Nat.lt_of_lt_of_le Vth.lt lt_x4)
  have ne7 : r0 ≠ x4 := Nat.ne_of_lt (Nat.lt_of_lt_of_le Et.lt lt_x4)
  have ne8 : r1 ≠ x4 := Nat.ne_of_lt (Nat.lt_of_lt_of_le V0.lt lt_x4)
  have sz_t4 : h0.size ≤ t4 := Nat.le_trans K0.1 lt_t4
  have g_t4 : n0 ≤ t4 := Nat.le_trans Z0 sz_t4
  have ne9 : s1 ≠ t4 := Nat.ne_of_lt (Nat.lt_of_lt_of_le Vsg.lt lt_t4)
  have ne10 : s3 ≠ t4 := Nat.ne_of_lt (Nat.lt_of_lt_of_le Vth.lt lt_t4)
  have ne11 : r0 ≠ t4 := Nat.ne_of_lt (Nat.lt_of_lt_of_le Et.lt lt_t4)
  have ne12 : r1 ≠ t4 := Nat.ne_of_lt (Nat.lt_of_lt_of_le V0.lt lt_t4)
  refine own_go (st4) ?_
  show own_Fin p.tables e below (T4.setTop (mkF m 86 #[.val (.ref r0), .val (.ref r1), .unset] [(.ref x4)])) _
  refine own_go (B := T4.setTop (mkF m 89 #[.val (.ref r0), .val (.ref r1), .val (.ref x4)] [(.ref r1), (.ref r0)])) (fun t k => ?_) ?_
  · show Steps p.tables e below (T4.setTop (mkF m 86 #[.val (.ref r0), .val (.ref r1), .unset] [(.ref x4)])) t
    refine XS.astoreN X4.here hx rfl (hb hby dro_86) rfl rfl (l' := #[.val (.ref r0), .val (.ref r1), .val (.ref x4)]) rfl ?_
    refine XS.aloadN X4.here hx rfl (hb hby dro_87) rfl rfl ?_
    refine XS.aloadN X4.here hx rfl (hb hby dro_88) rfl rfl ?_
    exact k
  have f14 := (V0.keep Kq4 nin0)
  have f15 := (E0.keep Kq4)
  obtain ⟨T13, h13, X13, e13, E13, V_b13, EA13, st13⟩ := cloneH X4 hx hZ hown (hw _ (List.mem_of_getElem? (i := 73) rfl)) (hw _ (List.mem_of_getElem? (i := 74) rfl)) (hw _ (List.mem_of_getElem? (i := 78) rfl)) (hw _ (List.mem_of_getElem? (i := 76) rfl)) (hw _ (List.mem_of_getElem? (i := 77) rfl)) (hw _ (List.mem_of_getElem? (i := 79) rfl)) rfl f14.arh f15 (g := (mkF m 89 #[.val (.ref r0), .val (.ref r1), .val (.ref x4)] [(.ref r1), (.ref r0)])) rfl (by rw [hml]; rfl) rfl (hb hby dro_89) (by decide) (W := 1) (cap := 6) (by show 2 * 0 + _ ≤ _; exact Nat.le_of_eq rfl) (by decide) (by decide) (by decide) (by decide)
  obtain ⟨b13, g13⟩ : ∃ z, z = T4.heap.size := ⟨_, rfl⟩
  rw [← g13] at V_b13 EA13 st13
  have g_b13 : n0 ≤ b13 := by rw [g13]; exact (Nat.le_trans Z0 K4.1)
  have sz_b13 : h0.size ≤ b13 := by rw [g13]; exact K4.1
  have f16 := (Vsg.keep Kq4 nin0)
  have ne17 : s1 ≠ b13 := Nat.ne_of_lt (by rw [g13]; exact f16.lt)
  have f18 := (Vth.keep Kq4 nin0)
  have ne19 : s3 ≠ b13 := Nat.ne_of_lt (by rw [g13]; exact f18.lt)
  have f20 := (Et.keep Kq4)
  have ne21 : r0 ≠ b13 := Nat.ne_of_lt (by rw [g13]; exact f20.lt)
  have ne22 : r1 ≠ b13 := Nat.ne_of_lt (by rw [g13]; exact f14.lt)
  have ne23 : x4 ≠ b13 := Nat.ne_of_lt (by rw [g13]; exact f4_0.lt)
  have ne24 : t4 ≠ b13 := Nat.ne_of_lt (by rw [g13]; exact f4_3.lt)
  have K13 : Keep h0 h13 [r0] := K4.ext E13
  have X13 : Stand p l e ({ frames := 3, cells := 5, slots := 27, locals := 90 } : Room) s m #[(.ref r0), (.ref r1)] below meth c T13 _ 5 27 := X13
  have V13 : Arv Z h13 b13 kc .int (6 : Int32) (ds.map own_V) (.int (0 : Int32)) := V_b13
  refine own_go st13 ?_
  show own_Fin p.tables e below (T13.setTop (mkF m 92 #[.val (.ref r0), .val (.ref r1), .val (.ref x4)] [(.ref b13), (.ref r0)])) _
  obtain ⟨T25, X25, e25, st25⟩ := castY X13 hx hZ hown (hw _ (List.mem_of_getElem? (i := 80) rfl)) e13 (Ins.self EA13) (g := (mkF m 92 #[.val (.ref r0), .val (.ref r1), .val (.ref x4)] [(.ref b13), (.ref r0)])) rfl rfl (hb hby dro_92)
  refine own_go st25 ?_
  show own_Fin p.tables e below (T25.setTop (mkF m 95 #[.val (.ref r0), .val (.ref r1), .val (.ref x4)] [(.ref b13), (.ref r0)])) _
  have f27 := ((Fth.keep Kq4 nin0).ext E13)
  have f28 := ((Et.keep Kq4).ext E13)
  obtain ⟨T26, h26, X26, e26, W26, st26⟩ := putF X25 hx hZ hown (host := "") (Or.inl (hw _ (List.mem_of_getElem? (i := 22) rfl))) Via.refl e25 f27 f28 (Or.inl (hw _ (List.mem_of_getElem? (i := 23) rfl))) (hw _ (List.mem_of_getElem? (i := 7) rfl)) (ty := (.array .int)) (by decide) rfl rfl (g := (mkF m 95 #[.val (.ref r0), .val (.ref r1), .val (.ref x4)] [(.ref b13), (.ref r0)])) rfl rfl (hb hby dro_95)
  have N26 := Fr.snoc X26 N4 gt
  have K26 : Keep h0 h26 [r0] := K13.wr W26 (Or.inl (by simp))
  have Fw26 := f27.same W26
  refine own_go st26 ?_
  show own_Fin p.tables e below (T26.setTop (mkF m 98 #[.val (.ref r0), .val (.ref r1), .val (.ref x4)] [])) _
  refine own_go (B := T26.setTop (mkF m 99 #[.val (.ref r0), .val (.ref r1), .val (.ref x4)] [(.ref x4)])) (fun t k => ?_) ?_
  · show Steps p.tables e below (T26.setTop (mkF m 98 #[.val (.ref r0), .val (.ref r1), .val (.ref x4)] [])) t
    refine XS.aloadN X26.here hx rfl (hb hby dro_98) rfl rfl ?_
    exact k
  obtain ⟨fs, hr, hrun, hended, hW, hsame⟩ := X26.leave (v := some (.ref x4)) (fun h => by rw [Bd.returns] at h; cases h)
  refine ⟨_, _, ?_, hrun, hended, _, _, rfl, ?_, ⟨_, rfl⟩, hW, hsame.mono (by decide) (by decide)⟩
  · exact retOut X26 hx (t := (.object "com/example/rollhaus/rollhaus/zehntausend/Scoring")) Bd.returns rfl (Or.inr (Or.inr (Or.inr (Or.inr ⟨rfl, rfl, rfl⟩)))) (hb hby dro_99) hr
  · show Qro Z r0 r1 s1 s3 kS kT kc ds cl h0 n0 _ T26.heap _
    rw [e26]
    have f30 := ((f4_0.ext E13).wr W26)
    have f31 := ((f4_1.ext E13).other W26 (Or.inl (Ne.symm ne7)))
    have f32 := ((f4_2.ext E13).other W26 (Or.inl (Ne.symm ne7)))
    have f33 := ((f4_3.ext E13).wr W26)
    have f34 := ((f4_4.ext E13).other W26 (Ne.symm ne11))
    have f35 := (EA13.wr W26)
    have f36 := (V13.other W26 (Ne.symm ne21))
    have f37 := (f28.wr W26)
    have f38 := (((Fle.keep Kq4 nin0).ext E13).other W26 (Or.inr (slot_ne (Or.inl (hw _ (List.mem_of_getElem? (i := 16) rfl))) (Or.inl (hw _ (List.mem_of_getElem? (i := 23) rfl))) (by decide) (t := .int) (t' := (.array .int)) (by decide) (by decide))))
    have f39 := (((Fpo.keep Kq4 nin0).ext E13).other W26 (Or.inr (slot_ne (Or.inl (hw _ (List.mem_of_getElem? (i := 112) rfl))) (Or.inl (hw _ (List.mem_of_getElem? (i := 23) rfl))) (by decide) (t := .int) (t' := (.array .int)) (by decide) (by decide))))
    exact ⟨x4, t4, kt4, b13, kc, rfl, N26, K26, sz_x4, sz_t4, ne_4, f30, f31, f32, f33, f34, sz_b13, f35, f36, f37, Fw26, f38, f39⟩
theorem dke_0 : decode prog_53_method_3_code 0 = .ok (.aload_n 0, 1) := by decide +kernel
theorem dke_1 : decode prog_53_method_3_code 1 = .ok (.getfield 15, 3) := by decide +kernel
theorem dke_4 : decode prog_53_method_3_code 4 = .ok (.ifnonnull 13, 3) := by decide +kernel
theorem dke_17 : decode prog_53_method_3_code 17 = .ok (.aload_n 1, 1) := by decide +kernel
theorem dke_18 : decode prog_53_method_3_code 18 = .ok (.arraylength, 1) := by decide +kernel
theorem dke_19 : decode prog_53_method_3_code 19 = .ok (.ifCond .ne 13, 3) := by decide +kernel
theorem dke_32 : decode prog_53_method_3_code 32 = .ok (.aload_n 1, 1) := by decide +kernel
theorem dke_33 : decode prog_53_method_3_code 33 = .ok (.aload_n 0, 1) := by decide +kernel
theorem dke_34 : decode prog_53_method_3_code 34 = .ok (.getfield 15, 3) := by decide +kernel
theorem dke_37 : decode prog_53_method_3_code 37 = .ok (.invokestatic 53, 3) := by decide +kernel
theorem dke_40 : decode prog_53_method_3_code 40 = .ok (.invokestatic 57, 3) := by decide +kernel
theorem dke_43 : decode prog_53_method_3_code 43 = .ok (.ifCond .ne 27, 3) := by decide +kernel
theorem dke_70 : decode prog_53_method_3_code 70 = .ok (.aload_n 1, 1) := by decide +kernel
theorem dke_71 : decode prog_53_method_3_code 71 = .ok (.invokestatic 40, 3) := by decide +kernel
theorem dke_74 : decode prog_53_method_3_code 74 = .ok (.astore_n 2, 1) := by decide +kernel
theorem dke_75 : decode prog_53_method_3_code 75 = .ok (.aload_n 2, 1) := by decide +kernel
theorem dke_76 : decode prog_53_method_3_code 76 = .ok (.invokevirtual 66, 3) := by decide +kernel
theorem dke_79 : decode prog_53_method_3_code 79 = .ok (.astore_n 3, 1) := by decide +kernel
theorem dke_80 : decode prog_53_method_3_code 80 = .ok (.aload_n 3, 1) := by decide +kernel
theorem dke_81 : decode prog_53_method_3_code 81 = .ok (.arraylength, 1) := by decide +kernel
theorem dke_82 : decode prog_53_method_3_code 82 = .ok (.aload_n 1, 1) := by decide +kernel
theorem dke_83 : decode prog_53_method_3_code 83 = .ok (.arraylength, 1) := by decide +kernel
theorem dke_84 : decode prog_53_method_3_code 84 = .ok (.if_icmp .eq 34, 3) := by decide +kernel
theorem dke_118 : decode prog_53_method_3_code 118 = .ok (.aload_n 0, 1) := by decide +kernel
theorem dke_119 : decode prog_53_method_3_code 119 = .ok (.dup, 1) := by decide +kernel
theorem dke_120 : decode prog_53_method_3_code 120 = .ok (.getfield 73, 3) := by decide +kernel
theorem dke_123 : decode prog_53_method_3_code 123 = .ok (.aload_n 2, 1) := by decide +kernel
theorem dke_124 : decode prog_53_method_3_code 124 = .ok (.invokevirtual 76, 3) := by decide +kernel
theorem dke_127 : decode prog_53_method_3_code 127 = .ok (.iadd, 1) := by decide +kernel
theorem dke_128 : decode prog_53_method_3_code 128 = .ok (.putfield 73, 3) := by decide +kernel
theorem dke_131 : decode prog_53_method_3_code 131 = .ok (.aload_n 0, 1) := by decide +kernel
theorem dke_132 : decode prog_53_method_3_code 132 = .ok (.dup, 1) := by decide +kernel
theorem dke_133 : decode prog_53_method_3_code 133 = .ok (.getfield 9, 3) := by decide +kernel
theorem dke_136 : decode prog_53_method_3_code 136 = .ok (.aload_n 1, 1) := by decide +kernel
theorem dke_137 : decode prog_53_method_3_code 137 = .ok (.arraylength, 1) := by decide +kernel
theorem dke_138 : decode prog_53_method_3_code 138 = .ok (.isub, 1) := by decide +kernel
theorem dke_139 : decode prog_53_method_3_code 139 = .ok (.putfield 9, 3) := by decide +kernel
theorem dke_142 : decode prog_53_method_3_code 142 = .ok (.aload_n 0, 1) := by decide +kernel
theorem dke_143 : decode prog_53_method_3_code 143 = .ok (.getfield 9, 3) := by decide +kernel
theorem dke_146 : decode prog_53_method_3_code 146 = .ok (.ifCond .ne 9, 3) := by decide +kernel
theorem dke_149 : decode prog_53_method_3_code 149 = .ok (.aload_n 0, 1) := by decide +kernel
theorem dke_150 : decode prog_53_method_3_code 150 = .ok (.bipush 6, 2) := by decide +kernel
theorem dke_152 : decode prog_53_method_3_code 152 = .ok (.putfield 9, 3) := by decide +kernel
theorem dke_155 : decode prog_53_method_3_code 155 = .ok (.aload_n 0, 1) := by decide +kernel
theorem dke_156 : decode prog_53_method_3_code 156 = .ok (.aconst_null, 1) := by decide +kernel
theorem dke_157 : decode prog_53_method_3_code 157 = .ok (.putfield 15, 3) := by decide +kernel
theorem dke_160 : decode prog_53_method_3_code 160 = .ok (.return_, 1) := by decide +kernel
theorem pnke : plainName "com/example/rollhaus/rollhaus/zehntausend/Turn" = true := by first | (simp [plainName, overriddenIn]; done) | decide +kernel
theorem pdke_0 : parseMethodDescriptor "([I)[I" = some ⟨[(.array .int)], some (.array .int)⟩ := by decide +kernel
theorem pdke_1 : parseMethodDescriptor "([I[I)Z" = some ⟨[(.array .int), (.array .int)], some .boolean⟩ := by decide +kernel
theorem pdke_2 : parseMethodDescriptor "([I)Lcom/example/rollhaus/rollhaus/zehntausend/Scoring;" = some ⟨[(.array .int)], some (.object "com/example/rollhaus/rollhaus/zehntausend/Scoring")⟩ := by decide +kernel
theorem pdke_3 : parseMethodDescriptor "()[I" = some ⟨[], some (.array .int)⟩ := by decide +kernel
theorem pdke_4 : parseMethodDescriptor "()I" = some ⟨[], some .int⟩ := by decide +kernel
theorem efke (m : MethodId) (z0 : Addr) (z1 : Addr) : entryFrame m #[(.ref z0), (.ref z1)] 4 = mkF m 0 #[.val (.ref z0), .val (.ref z1), .unset, .unset] [] := by first | (simp [entryFrame, mkF, argsToLocals, Value.category]; done) | rfl
def Qke (Z : State) (r0 : Addr) (r1 : Addr) (s1 : Addr) (s3 : Addr) (kS : ClassId) (kT : ClassId) (u : Addr) (ku : ClassId) (kc : ClassId) (nn : Nat) (ds : List Nat) (cl : List Nat) (es : List Nat) (clb : List Nat) (h0 : Heap) (n0 : Nat) (v : Option Value) (h : Heap) (L : List Loc) : Prop := v = none ∧ Fr n0 L ∧ Keep h0 h [r0] ∧ Exa Z h r0 "com/example/rollhaus/rollhaus/zehntausend/Turn" ∧ Fld Z h r0 "com/example/rollhaus/rollhaus/zehntausend/Turn" "thrown" "[I" .null
set_option maxRecDepth 65536 in
set_option maxHeartbeats 40000000 in
theorem rmke (l : Launch) (Z : State) (a0 : Array Value) (hw : ∀ d ∈ tables_1, d.before a0 Z = true) (ws : List Jvm.Cond) (r0 : Addr) (r1 : Addr) (s1 : Addr) (s3 : Addr) (kS : ClassId) (kT : ClassId) (u : Addr) (ku : ClassId) (kc : ClassId) (nn : Nat) (ds : List Nat) (cl : List Nat) (es : List Nat) (clb : List Nat) (h0 : Heap) (n0 : Nat) (Z0 : n0 ≤ h0.size) (O0 : Old Z n0 h0) (Ssg : Sta Z Z.heap "com/example/rollhaus/rollhaus/zehntausend/Scoring" "SINGLE" "[I" (.ref s1)) (Sth : Sta Z Z.heap "com/example/rollhaus/rollhaus/zehntausend/Scoring" "THREE_ALIKE" "[I" (.ref s3)) (Vsg : Arv Z h0 s1 kS .int (7 : Int32) (own_S.map own_V) (.int (0 : Int32))) (Vth : Arv Z h0 s3 kT .int (7 : Int32) (own_T.map own_V) (.int (0 : Int32))) (Et : Exa Z h0 r0 "com/example/rollhaus/rollhaus/zehntausend/Turn") (gt : n0 ≤ r0) (Fth : Fld Z h0 r0 "com/example/rollhaus/rollhaus/zehntausend/Turn" "thrown" "[I" (.ref u)) (Fle : Fld Z h0 r0 "com/example/rollhaus/rollhaus/zehntausend/Turn" "left" "I" (.int (6 : Int32))) (Fpo : Fld Z h0 r0 "com/example/rollhaus/rollhaus/zehntausend/Turn" "points" "I" (.int (0 : Int32))) (Vu : Arv Z h0 u ku .int (6 : Int32) (ds.map own_V) (.int (0 : Int32))) (V0 : Arv Z h0 r1 kc .int (own_I nn) (es.map own_V) (.int (0 : Int32))) (ner : r1 ≠ r0) (ne1 : s1 ≠ r0) (ne3 : s3 ≠ r0) (neu : u ≠ r0) (hds : ds.length = 6) (hd6 : ∀ d ∈ ds, 1 ≤ d ∧ d ≤ 6) (hcl : own_counts ds own_z7 = cl) (hc7 : cl.length = 7) (hrem : own_rem cl 6 1 = 6) (hlc : ∀ d, cl.getD d 0 ≤ 6) (hes : es.length = nn) (h1n : 1 ≤ nn) (hnn : nn ≤ 6) (he6 : ∀ d ∈ es, 1 ≤ d ∧ d ≤ 6) (ham : own_amB es cl = true) (hcl2 : own_counts es own_z7 = clb) (hc72 : clb.length = 7) (hrem2 : own_rem clb 6 1 = nn) (hlen2 : (own_res clb).2.length = nn) :
    MetFree l (⟨"com/example/rollhaus/rollhaus/zehntausend/Turn", "keep", "([I)V"⟩ : MethodName) (head1 (Jvm.Cond.code (⟨"com/example/rollhaus/rollhaus/zehntausend/Turn", "keep", "([I)V"⟩ : MethodName) prog_53_method_3_code 4 none :: ws) ({ frames := 3, cells := 7, slots := 41, locals := 90 } : Room)) (fun a U => a = #[(.ref r0), (.ref r1)] ∧ Z.Warmed39 U.vm ∧ U.heap = h0) (fun _ _ _ _ _ => True) (fun _ U o U' => ∃ v L, o = .returned v ∧ Qke Z r0 r1 s1 s3 kS kT u ku kc nn ds cl es clb h0 n0 v U'.heap L ∧ FrameEnd U o U' L ({ frames := 3, cells := 7, slots := 41, locals := 90 } : Room).cells ({ frames := 3, cells := 7, slots := 41, locals := 90 } : Room).slots) := by
  refine MetFree.of_bodySF (plainFor_of_name pnke) hisR ?_
  intro p e s m args below meth c s₁ Bd hml0 hP hK
  obtain ⟨rfl, hZ, hh⟩ := hP
  have hx := Bd.exec
  have hby := Bd.bytes
  have hml : c.maxLocals = 4 := hml0
  have hown : s.vm.findClass "com/example/rollhaus/rollhaus/zehntausend/Turn" = some m.cls := findClass_of_methodNamed Bd.named
  have hnm := (name_of_methodNamed Bd.named Bd.method).1
  have X0 : Stand p l e ({ frames := 3, cells := 7, slots := 41, locals := 90 } : Room) s m #[(.ref r0), (.ref r1)] below meth c s₁ [] 0 0 := Stand.of_body Bd
  have e0 : s₁.heap = h0 := by rw [← hh, Bd.state]; rfl
  have N0 := Fr.nil n0
  have K0 : Keep h0 h0 [r0] := Keep.refl h0 _
  refine own_in ?_
  refine own_go (B := s₁.setTop (mkF m 0 #[.val (.ref r0), .val (.ref r1), .unset, .unset] [])) (fun t k => castTop (efke m r0 r1) k) ?_
  refine own_go (B := s₁.setTop (mkF m 1 #[.val (.ref r0), .val (.ref r1), .unset, .unset] [(.ref r0)])) (fun t k => ?_) ?_
  · show Steps p.tables e below (s₁.setTop (mkF m 0 #[.val (.ref r0), .val (.ref r1), .unset, .unset] [])) t
    refine XS.aloadN X0.here hx rfl (hb hby dke_0) rfl rfl ?_
    exact k
  obtain ⟨T1, X1, e1, st1⟩ := getF X0 hx hZ hown (host := "") (Or.inl (hw _ (List.mem_of_getElem? (i := 22) rfl))) Via.refl e0 Fth (g := (mkF m 1 #[.val (.ref r0), .val (.ref r1), .unset, .unset] [(.ref r0)])) rfl rfl (hb hby dke_1)
  refine own_go st1 ?_
  show own_Fin p.tables e below (T1.setTop (mkF m 4 #[.val (.ref r0), .val (.ref r1), .unset, .unset] [(.ref u)])) _
  refine own_go (B := T1.setTop (mkF m 18 #[.val (.ref r0), .val (.ref r1), .unset, .unset] [(.ref r1)])) (fun t k => ?_) ?_
  · show Steps p.tables e below (T1.setTop (mkF m 4 #[.val (.ref r0), .val (.ref r1), .unset, .unset] [(.ref u)])) t
    refine XS.ifnonnullYes X1.here hx rfl (pc0 := 4) (pc' := 17) rfl (hb hby dke_4) rfl (by decide) (by decide) ?_
    refine XS.aloadN X1.here hx rfl (hb hby dke_17) rfl rfl ?_
    exact k
  obtain ⟨cl2, Ar2, -, S2, M2, -, -⟩ := id V0
  refine own_go (B := T1.setTop (mkF m 19 #[.val (.ref r0), .val (.ref r1), .unset, .unset] [(.int (own_I nn))])) (fun t k => ?_) ?_
  · refine X1.arraylength hx (by first | exact Ar2.1 | (rw [e1]; exact Ar2.1)) (State.isArrayOf_alike hZ.alike Ar2.2.1) (g := (mkF m 18 #[.val (.ref r0), .val (.ref r1), .unset, .unset] [(.ref r1)])) rfl rfl (hb hby dke_18) _ ?_
    rw [len_of S2 M2]
    exact k
  have hc3 : ¬ ((own_I nn) = (0 : Int32)) := fun q => (by omega : ¬ nn = 0) (own_inj (by omega) (by omega) (q.trans (rfl : (0 : Int32) = own_I 0)))
  refine own_go (B := T1.setTop (mkF m 34 #[.val (.ref r0), .val (.ref r1), .unset, .unset] [(.ref r0), (.ref r1)])) (fun t k => ?_) ?_
  · show Steps p.tables e below (T1.setTop (mkF m 19 #[.val (.ref r0), .val (.ref r1), .unset, .unset] [(.int (own_I nn))])) t
    refine XS.ifYes X1.here hx rfl (pc0 := 19) (pc' := 32) rfl (hb hby dke_19) rfl ((if0 _ _).trans (feq hc3).2) (by decide) (by decide) ?_
    refine XS.aloadN X1.here hx rfl (hb hby dke_32) rfl rfl ?_
    refine XS.aloadN X1.here hx rfl (hb hby dke_33) rfl rfl ?_
    exact k
  obtain ⟨T4, X4, e4, st4⟩ := getF X1 hx hZ hown (host := "") (Or.inl (hw _ (List.mem_of_getElem? (i := 22) rfl))) Via.refl e1 Fth (g := (mkF m 34 #[.val (.ref r0), .val (.ref r1), .unset, .unset] [(.ref r0), (.ref r1)])) rfl rfl (hb hby dke_34)
  refine own_go st4 ?_
  show own_Fin p.tables e below (T4.setTop (mkF m 37 #[.val (.ref r0), .val (.ref r1), .unset, .unset] [(.ref u), (.ref r1)])) _
  obtain ⟨_, _, ⟨T5, L5, k5, n5⟩, -, X5, ⟨Lc5, hQ5, l5, y5, z5⟩, st5⟩ := Jvm.LawKit.callS X4 hx (y := (⟨"com/example/rollhaus/rollhaus/dice/Faces", "counts", "([I)[I"⟩ : MethodName)) hown (mvT hZ (hw _ (List.mem_of_getElem? (i := 102) rfl))) (mvT hZ (hw _ (List.mem_of_getElem? (i := 34) rfl))) (mvT hZ (hw _ (List.mem_of_getElem? (i := 35) rfl))) (mvT hZ (hw _ (List.mem_of_getElem? (i := 36) rfl))) (by decide) (backOf (W := 1) (rmco l Z a0 hw [] u ku 6 ds h0 n0 Z0 Vu hds (by decide) hd6) hZ (hw _ (List.mem_of_getElem? (i := 36) rfl)) (hw _ (List.mem_of_getElem? (i := 35) rfl)) (by decide) (by decide)) (g := (mkF m 37 #[.val (.ref r0), .val (.ref r1), .unset, .unset] [(.ref u), (.ref r1)])) rfl (by rw [hml]; rfl) (argsL := [(.ref u)]) (rest := [(.ref r1)]) (lenOf pdke_0 rfl) rfl (by show 2 * 0 + _ ≤ _; exact Nat.le_of_eq rfl) (hb hby dke_37) (fun _ _ => ⟨rfl, e4, (by decide : 0 + 1 ≤ _), (by decide : 0 + 7 ≤ _)⟩)
  dsimp only [Pt.U, Pt.locs, Pt.cells, Pt.slots] at X5 l5 y5 z5 st5 hQ5
  subst y5 z5
  have X5 : Stand p l e ({ frames := 3, cells := 7, slots := 41, locals := 90 } : Room) s m #[(.ref r0), (.ref r1)] below meth c T5 _ 1 7 := X5
  obtain ⟨x5, kx5, rfl, N5q, Kq5, lt_x5, EA5, V5⟩ := hQ5
  have N5 : Fr n0 L5 := by rw [l5]; exact Fr.app N0 N5q
  rw [hcl] at V5
  have K5 : Keep h0 T5.heap [r0] := K0.trans Kq5 all0
  have sz_x5 : h0.size ≤ x5 := Nat.le_trans K0.1 lt_x5
  have g_x5 : n0 ≤ x5 := Nat.le_trans Z0 sz_x5
  have ne6 : s1 ≠ x5 := Nat.ne_of_lt (Nat.lt_of_lt_of_le Vsg.lt lt_x5)
  have ne7 : s3 ≠ x5 := Nat.ne_of_lt (Nat.lt_of_lt_of_le Vth.lt lt_x5)
  have ne8 : r0 ≠ x5 := Nat.ne_of_lt (Nat.lt_of_lt_of_le Et.lt lt_x5)
  have ne9 : r1 ≠ x5 := Nat.ne_of_lt (Nat.lt_of_lt_of_le V0.lt lt_x5)
  have ne10 : u ≠ x5 := Nat.ne_of_lt (Nat.lt_of_lt_of_le Vu.lt lt_x5)
  refine own_go (st5) ?_
  show own_Fin p.tables e below (T5.setTop (mkF m 40 #[.val (.ref r0), .val (.ref r1), .unset, .unset] [(.ref x5), (.ref r1)])) _
  have f12 := (V0.keep Kq5 nin0)
  obtain ⟨_, _, ⟨T11, L11, k11, n11⟩, -, X11, ⟨Lc11, hQ11, l11, y11, z11⟩, st11⟩ := Jvm.LawKit.callS X5 hx (y := (⟨"com/example/rollhaus/rollhaus/dice/Faces", "among", "([I[I)Z"⟩ : MethodName)) hown (mvT hZ (hw _ (List.mem_of_getElem? (i := 103) rfl))) (mvT hZ (hw _ (List.mem_of_getElem? (i := 104) rfl))) (mvT hZ (hw _ (List.mem_of_getElem? (i := 35) rfl))) (mvT hZ (hw _ (List.mem_of_getElem? (i := 105) rfl))) (by decide) (backOf (W := 0) (rmam l Z a0 hw [] r1 x5 kc kx5 nn es cl T5.heap n0 (Nat.le_trans Z0 K5.1) f12 V5 EA5 hes hnn hc7 hlc ham) hZ (hw _ (List.mem_of_getElem? (i := 105) rfl)) (hw _ (List.mem_of_getElem? (i := 35) rfl)) (by decide) (by decide)) (g := (mkF m 40 #[.val (.ref r0), .val (.ref r1), .unset, .unset] [(.ref x5), (.ref r1)])) rfl (by rw [hml]; rfl) (argsL := [(.ref r1), (.ref x5)]) (rest := []) (lenOf pdke_1 rfl) rfl (by show 2 * 0 + _ ≤ _; exact Nat.le_of_eq rfl) (hb hby dke_40) (fun _ _ => ⟨rfl, rfl, (by decide : 1 + 1 ≤ _), (by decide : 7 + 7 ≤ _)⟩)
  dsimp only [Pt.U, Pt.locs, Pt.cells, Pt.slots] at X11 l11 y11 z11 st11 hQ11
  subst y11 z11
  have X11 : Stand p l e ({ frames := 3, cells := 7, slots := 41, locals := 90 } : Room) s m #[(.ref r0), (.ref r1)] below meth c T11 _ 2 14 := X11
  obtain ⟨rfl, N11q, Kq11⟩ := hQ11
  have N11 : Fr n0 L11 := by rw [l11]; exact Fr.app N5 N11q
  have K11 : Keep h0 T11.heap [r0] := K5.trans Kq11 all0
  refine own_go (st11) ?_
  show own_Fin p.tables e below (T11.setTop (mkF m 43 #[.val (.ref r0), .val (.ref r1), .unset, .unset] [(.int (1 : Int32))])) _
  refine own_go (B := T11.setTop (mkF m 71 #[.val (.ref r0), .val (.ref r1), .unset, .unset] [(.ref r1)])) (fun t k => ?_) ?_
  · show Steps p.tables e below (T11.setTop (mkF m 43 #[.val (.ref r0), .val (.ref r1), .unset, .unset] [(.int (1 : Int32))])) t
    refine XS.ifYes X11.here hx rfl (pc0 := 43) (pc' := 70) rfl (hb hby dke_43) rfl ((if0 _ _).trans (feq (by decide : ¬ ((1 : Int32) = (0 : Int32)))).2) (by decide) (by decide) ?_
    refine XS.aloadN X11.here hx rfl (hb hby dke_70) rfl rfl ?_
    exact k
  have f14 := ((O0.keep Kq5 all0).keep Kq11 all0)
  have f15 := ((Vsg.keep Kq5 nin0).keep Kq11 nin0)
  have f16 := ((Vth.keep Kq5 nin0).keep Kq11 nin0)
  have f17 := (f12.keep Kq11 nin0)
  obtain ⟨_, _, ⟨T13, L13, k13, n13⟩, -, X13, ⟨Lc13, hQ13, l13, y13, z13⟩, st13⟩ := Jvm.LawKit.callS X11 hx (y := (⟨"com/example/rollhaus/rollhaus/zehntausend/Scoring", "of", "([I)Lcom/example/rollhaus/rollhaus/zehntausend/Scoring;"⟩ : MethodName)) hown (mvT hZ (hw _ (List.mem_of_getElem? (i := 29) rfl))) (mvT hZ (hw _ (List.mem_of_getElem? (i := 30) rfl))) (mvT hZ (hw _ (List.mem_of_getElem? (i := 31) rfl))) (mvT hZ (hw _ (List.mem_of_getElem? (i := 32) rfl))) (by decide) (backOf (W := 0) (rmof l Z a0 hw [] r1 s1 s3 kS kT kc nn es clb T11.heap n0 (Nat.le_trans Z0 K11.1) f14 Ssg Sth f15 f16 f17 hes h1n hnn he6 hcl2 hc72 hrem2) hZ (hw _ (List.mem_of_getElem? (i := 32) rfl)) (hw _ (List.mem_of_getElem? (i := 31) rfl)) (by decide) (by decide)) (g := (mkF m 71 #[.val (.ref r0), .val (.ref r1), .unset, .unset] [(.ref r1)])) rfl (by rw [hml]; rfl) (argsL := [(.ref r1)]) (rest := []) (lenOf pdke_2 rfl) rfl (by show 2 * 0 + _ ≤ _; exact Nat.le_of_eq rfl) (hb hby dke_71) (fun _ _ => ⟨rfl, rfl, (by decide : 2 + 4 ≤ _), (by decide : 14 + 21 ≤ _)⟩)
  dsimp only [Pt.U, Pt.locs, Pt.cells, Pt.slots] at X13 l13 y13 z13 st13 hQ13
  subst y13 z13
  have X13 : Stand p l e ({ frames := 3, cells := 7, slots := 41, locals := 90 } : Room) s m #[(.ref r0), (.ref r1)] below meth c T13 _ 6 35 := X13
  have f18 := ((Et.keep Kq5).keep Kq11)
  have f19 := ((Vu.keep Kq5 nin0).keep Kq11 nin0)
  have f20 := (EA5.keep Kq11)
  obtain ⟨x13, t13, kt13, rfl, N13q, Kq13, lt_x13, lt_t13, ne_13, f13_0, f13_1, f13_2, f13_3, f13_4⟩ := hQ13
  have N13 : Fr n0 L13 := by rw [l13]; exact Fr.app N11 N13q
  have K13 : Keep h0 T13.heap [r0] := K11.trans Kq13 all0
  have sz_x13 : h0.size ≤ x13 := Nat.le_trans K11.1 lt_x13
  have g_x13 : n0 ≤ x13 := Nat.le_trans Z0 sz_x13
  have ne21 : s1 ≠ x13 := Nat.ne_of_lt (Nat.lt_of_lt_of_le f15.lt lt_x13)
  have ne22 : s3 ≠ x13 := Nat.ne_of_lt (Nat.lt_of_lt_of_le f16.lt lt_x13)
  have ne23 : r0 ≠ x13 := Nat.ne_of_lt (Nat.lt_of_lt_of_le f18.lt lt_x13)
  have ne24 : r1 ≠ x13 := Nat.ne_of_lt (Nat.lt_of_lt_of_le f17.lt lt_x13)
  have ne25 : u ≠ x13 := Nat.ne_of_lt (Nat.lt_of_lt_of_le f19.lt lt_x13)
  have ne26 : x5 ≠ x13 := Nat.ne_of_lt (Nat.lt_of_lt_of_le f20.lt lt_x13)
  have sz_t13 : h0.size ≤ t13 := Nat.le_trans K11.1 lt_t13
  have g_t13 : n0 ≤ t13 := Nat.le_trans Z0 sz_t13
  have ne27 : s1 ≠ t13 := Nat.ne_of_lt (Nat.lt_of_lt_of_le f15.lt lt_t13)
  have ne28 : s3 ≠ t13 := Nat.ne_of_lt (Nat.lt_of_lt_of_le f16.lt lt_t13)
  have ne29 : r0 ≠ t13 := Nat.ne_of_lt (Nat.lt_of_lt_of_le f18.lt lt_t13)
  have ne30 : r1 ≠ t13 := Nat.ne_of_lt (Nat.lt_of_lt_of_le f17.lt lt_t13)
  have ne31 : u ≠ t13 := Nat.ne_of_lt (Nat.lt_of_lt_of_le f19.lt lt_t13)
  have ne32 : x5 ≠ t13 := Nat.ne_of_lt (Nat.lt_of_lt_of_le f20.lt lt_t13)
  refine own_go (st13) ?_
  show own_Fin p.tables e below (T13.setTop (mkF m 74 #[.val (.ref r0), .val (.ref r1), .unset, .unset] [(.ref x13)])) _
  refine own_go (B := T13.setTop (mkF m 76 #[.val (.ref r0), .val (.ref r1), .val (.ref x13), .unset] [(.ref x13)])) (fun t k => ?_) ?_
  · show Steps p.tables e below (T13.setTop (mkF m 74 #[.val (.ref r0), .val (.ref r1), .unset, .unset] [(.ref x13)])) t
    refine XS.astoreN X13.here hx rfl (hb hby dke_74) rfl rfl (l' := #[.val (.ref r0), .val (.ref r1), .val (.ref x13), .unset]) rfl ?_
    refine XS.aloadN X13.here hx rfl (hb hby dke_75) rfl rfl ?_
    exact k
  obtain ⟨cq33, kq33, q33a, q33b, q33c⟩ := isOf hZ rfl f13_0
  obtain ⟨_, _, ⟨T33, L33, k33, n33⟩, -, X33, ⟨Lc33, hQ33, l33, y33, z33⟩, st33⟩ := X13.virtualBack hx (y := (⟨"com/example/rollhaus/rollhaus/zehntausend/Scoring", "dice", "()[I"⟩ : MethodName)) (z := (⟨"com/example/rollhaus/rollhaus/zehntausend/Scoring", "dice", "()[I"⟩ : MethodName)) hown (mvT hZ (hw _ (List.mem_of_getElem? (i := 110) rfl))) (mvT hZ (hw _ (List.mem_of_getElem? (i := 91) rfl))) (notFace_of_selects (args := #[]) (mvT hZ (hw _ (List.mem_of_getElem? (i := 93) rfl)))) (mvT hZ (hw _ (List.mem_of_getElem? (i := 93) rfl))) (mvT hZ (hw _ (List.mem_of_getElem? (i := 92) rfl))) (by decide) (backOf (W := 0) (rmsd l Z a0 hw [] x13 t13 kt13 ((own_res clb).2.length) (own_res clb).2 T13.heap n0 (Nat.le_trans Z0 K13.1) f13_2 f13_4 f13_3 (by omega)) hZ (hw _ (List.mem_of_getElem? (i := 94) rfl)) (hw _ (List.mem_of_getElem? (i := 31) rfl)) (by decide) (by decide)) q33a q33c (g := (mkF m 76 #[.val (.ref r0), .val (.ref r1), .val (.ref x13), .unset] [(.ref x13)])) rfl (by rw [hml]; rfl) (Steps.refl _) (argsL := []) (rest := []) (lenOf pdke_3 rfl) rfl (by show 2 * 0 + _ ≤ _; exact Nat.le_of_eq rfl) (hb hby dke_76) (fun _ _ => ⟨rfl, rfl, (by decide : 6 + 1 ≤ _), (by decide : 35 + 6 ≤ _)⟩)
  dsimp only [Pt.U, Pt.locs, Pt.cells, Pt.slots] at X33 l33 y33 z33 st33 hQ33
  subst y33 z33
  have X33 : Stand p l e ({ frames := 3, cells := 7, slots := 41, locals := 90 } : Room) s m #[(.ref r0), (.ref r1)] below meth c T33 _ 7 41 := X33
  have f34 := (f15.keep Kq13 nin0)
  have f35 := (f16.keep Kq13 nin0)
  have f36 := (f18.keep Kq13)
  have f37 := (f17.keep Kq13 nin0)
  have f38 := (f19.keep Kq13 nin0)
  have f39 := (f20.keep Kq13)
  obtain ⟨x33, kx33, rfl, N33q, Kq33, lt_x33, EA33, V33⟩ := hQ33
  have N33 : Fr n0 L33 := by rw [l33]; exact Fr.app N13 N33q
  have K33 : Keep h0 T33.heap [r0] := K13.trans Kq33 all0
  have sz_x33 : h0.size ≤ x33 := Nat.le_trans K13.1 lt_x33
  have g_x33 : n0 ≤ x33 := Nat.le_trans Z0 sz_x33
  have ne40 : s1 ≠ x33 := Nat.ne_of_lt (Nat.lt_of_lt_of_le f34.lt lt_x33)
  have ne41 : s3 ≠ x33 := Nat.ne_of_lt (Nat.lt_of_lt_of_le f35.lt lt_x33)
  have ne42 : r0 ≠ x33 := Nat.ne_of_lt (Nat.lt_of_lt_of_le f36.lt lt_x33)
  have ne43 : r1 ≠ x33 := Nat.ne_of_lt (Nat.lt_of_lt_of_le f37.lt lt_x33)
  have ne44 : u ≠ x33 := Nat.ne_of_lt (Nat.lt_of_lt_of_le f38.lt lt_x33)
  have ne45 : x5 ≠ x33 := Nat.ne_of_lt (Nat.lt_of_lt_of_le f39.lt lt_x33)
  have ne46 : x13 ≠ x33 := Nat.ne_of_lt (Nat.lt_of_lt_of_le f13_0.lt lt_x33)
  have ne47 : t13 ≠ x33 := Nat.ne_of_lt (Nat.lt_of_lt_of_le f13_3.lt lt_x33)
  refine own_go (fun _ k => st33.trans k) ?_
  show own_Fin p.tables e below (T33.setTop (mkF m 79 #[.val (.ref r0), .val (.ref r1), .val (.ref x13), .unset] [(.ref x33)])) _
  refine own_go (B := T33.setTop (mkF m 81 #[.val (.ref r0), .val (.ref r1), .val (.ref x13), .val (.ref x33)] [(.ref x33)])) (fun t k => ?_) ?_
  · show Steps p.tables e below (T33.setTop (mkF m 79 #[.val (.ref r0), .val (.ref r1), .val (.ref x13), .unset] [(.ref x33)])) t
    refine XS.astoreN X33.here hx rfl (hb hby dke_79) rfl rfl (l' := #[.val (.ref r0), .val (.ref r1), .val (.ref x13), .val (.ref x33)]) rfl ?_
    refine XS.aloadN X33.here hx rfl (hb hby dke_80) rfl rfl ?_
    exact k
  obtain ⟨cl48, Ar48, -, S48, M48, -, -⟩ := id V33
  refine own_go (B := T33.setTop (mkF m 82 #[.val (.ref r0), .val (.ref r1), .val (.ref x13), .val (.ref x33)] [(.int (own_I (own_res clb).2.length))])) (fun t k => ?_) ?_
  · refine X33.arraylength hx (by first | exact Ar48.1 | (rw [rfl]; exact Ar48.1)) (State.isArrayOf_alike hZ.alike Ar48.2.1) (g := (mkF m 81 #[.val (.ref r0), .val (.ref r1), .val (.ref x13), .val (.ref x33)] [(.ref x33)])) rfl rfl (hb hby dke_81) _ ?_
    rw [len_of S48 M48]
    exact k
  refine own_go (B := T33.setTop (mkF m 83 #[.val (.ref r0), .val (.ref r1), .val (.ref x13), .val (.ref x33)] [(.ref r1), (.int (own_I (own_res clb).2.length))])) (fun t k => ?_) ?_
  · show Steps p.tables e below (T33.setTop (mkF m 82 #[.val (.ref r0), .val (.ref r1), .val (.ref x13), .val (.ref x33)] [(.int (own_I (own_res clb).2.length))])) t
    refine XS.aloadN X33.here hx rfl (hb hby dke_82) rfl rfl ?_
    exact k
  have f50 := (f37.keep Kq33 nin0)
  obtain ⟨cl49, Ar49, -, S49, M49, -, -⟩ := id f50
  refine own_go (B := T33.setTop (mkF m 84 #[.val (.ref r0), .val (.ref r1), .val (.ref x13), .val (.ref x33)] [(.int (own_I nn)), (.int (own_I (own_res clb).2.length))])) (fun t k => ?_) ?_
  · refine X33.arraylength hx (by first | exact Ar49.1 | (rw [rfl]; exact Ar49.1)) (State.isArrayOf_alike hZ.alike Ar49.2.1) (g := (mkF m 83 #[.val (.ref r0), .val (.ref r1), .val (.ref x13), .val (.ref x33)] [(.ref r1), (.int (own_I (own_res clb).2.length))])) rfl rfl (hb hby dke_83) _ ?_
    rw [len_of S49 M49]
    exact k
  have hc51 : (own_I (own_res clb).2.length) = (own_I nn) := congrArg own_I hlen2
  refine own_go (B := T33.setTop (mkF m 120 #[.val (.ref r0), .val (.ref r1), .val (.ref x13), .val (.ref x33)] [(.ref r0), (.ref r0)])) (fun t k => ?_) ?_
  · show Steps p.tables e below (T33.setTop (mkF m 84 #[.val (.ref r0), .val (.ref r1), .val (.ref x13), .val (.ref x33)] [(.int (own_I nn)), (.int (own_I (own_res clb).2.length))])) t
    refine XS.icmpYes X33.here hx rfl (pc0 := 84) (pc' := 118) rfl (hb hby dke_84) rfl (teq hc51).1 (by decide) (by decide) ?_
    refine XS.aloadN X33.here hx rfl (hb hby dke_118) rfl rfl ?_
    refine XS.dup X33.here hx rfl (hb hby dke_119) rfl rfl ?_
    exact k
  have f53 := ((((Fpo.keep Kq5 nin0).keep Kq11 nin0).keep Kq13 nin0).keep Kq33 nin0)
  obtain ⟨T52, X52, e52, st52⟩ := getF X33 hx hZ hown (host := "") (Or.inl (hw _ (List.mem_of_getElem? (i := 111) rfl))) Via.refl rfl f53 (g := (mkF m 120 #[.val (.ref r0), .val (.ref r1), .val (.ref x13), .val (.ref x33)] [(.ref r0), (.ref r0)])) rfl rfl (hb hby dke_120)
  refine own_go st52 ?_
  show own_Fin p.tables e below (T52.setTop (mkF m 123 #[.val (.ref r0), .val (.ref r1), .val (.ref x13), .val (.ref x33)] [(.int (0 : Int32)), (.ref r0)])) _
  refine own_go (B := T52.setTop (mkF m 124 #[.val (.ref r0), .val (.ref r1), .val (.ref x13), .val (.ref x33)] [(.ref x13), (.int (0 : Int32)), (.ref r0)])) (fun t k => ?_) ?_
  · show Steps p.tables e below (T52.setTop (mkF m 123 #[.val (.ref r0), .val (.ref r1), .val (.ref x13), .val (.ref x33)] [(.int (0 : Int32)), (.ref r0)])) t
    refine XS.aloadN X52.here hx rfl (hb hby dke_123) rfl rfl ?_
    exact k
  have f55 := (f13_1.keep Kq33 nin0)
  have f56 := (f13_0.keep Kq33)
  obtain ⟨cq54, kq54, q54a, q54b, q54c⟩ := isOf hZ e52 f56
  obtain ⟨_, _, ⟨T54, L54, k54, n54⟩, -, X54, ⟨Lc54, hQ54, l54, y54, z54⟩, st54⟩ := X52.virtualBack hx (y := (⟨"com/example/rollhaus/rollhaus/zehntausend/Scoring", "points", "()I"⟩ : MethodName)) (z := (⟨"com/example/rollhaus/rollhaus/zehntausend/Scoring", "points", "()I"⟩ : MethodName)) hown (mvT hZ (hw _ (List.mem_of_getElem? (i := 113) rfl))) (mvT hZ (hw _ (List.mem_of_getElem? (i := 86) rfl))) (notFace_of_selects (args := #[]) (mvT hZ (hw _ (List.mem_of_getElem? (i := 88) rfl)))) (mvT hZ (hw _ (List.mem_of_getElem? (i := 88) rfl))) (mvT hZ (hw _ (List.mem_of_getElem? (i := 87) rfl))) (by decide) (backOf (W := 2) (rmsp l Z a0 hw [] x13 (own_res clb).1 T33.heap n0 (Nat.le_trans Z0 K33.1) f55) hZ (hw _ (List.mem_of_getElem? (i := 89) rfl)) (hw _ (List.mem_of_getElem? (i := 31) rfl)) (by decide) (by decide)) q54a q54c (g := (mkF m 124 #[.val (.ref r0), .val (.ref r1), .val (.ref x13), .val (.ref x33)] [(.ref x13), (.int (0 : Int32)), (.ref r0)])) rfl (by rw [hml]; rfl) (Steps.refl _) (argsL := []) (rest := [(.int (0 : Int32)), (.ref r0)]) (lenOf pdke_4 rfl) rfl (by show 2 * 0 + _ ≤ _; exact Nat.le_of_eq rfl) (hb hby dke_124) (fun _ _ => ⟨rfl, e52, (by decide : 7 + 0 ≤ _), (by decide : 41 + 0 ≤ _)⟩)
  dsimp only [Pt.U, Pt.locs, Pt.cells, Pt.slots] at X54 l54 y54 z54 st54 hQ54
  subst y54 z54
  have X54 : Stand p l e ({ frames := 3, cells := 7, slots := 41, locals := 90 } : Room) s m #[(.ref r0), (.ref r1)] below meth c T54 _ 7 41 := X54
  obtain ⟨rfl, N54q, e54⟩ := hQ54
  have N54 : Fr n0 L54 := by rw [l54]; exact Fr.app N33 N54q
  refine own_go (fun _ k => st54.trans k) ?_
  show own_Fin p.tables e below (T54.setTop (mkF m 127 #[.val (.ref r0), .val (.ref r1), .val (.ref x13), .val (.ref x33)] [(.int (own_I (own_res clb).1)), (.int (0 : Int32)), (.ref r0)])) _
  refine own_go (B := T54.setTop (mkF m 128 #[.val (.ref r0), .val (.ref r1), .val (.ref x13), .val (.ref x33)] [(.int ((0 : Int32) + (own_I (own_res clb).1))), (.ref r0)])) (fun t k => ?_) ?_
  · show Steps p.tables e below (T54.setTop (mkF m 127 #[.val (.ref r0), .val (.ref r1), .val (.ref x13), .val (.ref x33)] [(.int (own_I (own_res clb).1)), (.int (0 : Int32)), (.ref r0)])) t
    refine XS.iadd X54.here hx rfl (hb hby dke_127) rfl ?_
    exact k
  have f58 := ((((Et.keep Kq5).keep Kq11).keep Kq13).keep Kq33)
  obtain ⟨T57, h57, X57, e57, W57, st57⟩ := putF X54 hx hZ hown (host := "") (Or.inl (hw _ (List.mem_of_getElem? (i := 111) rfl))) Via.refl e54 f53 f58 (Or.inl (hw _ (List.mem_of_getElem? (i := 112) rfl))) (hw _ (List.mem_of_getElem? (i := 7) rfl)) (ty := .int) (by decide) rfl rfl (g := (mkF m 128 #[.val (.ref r0), .val (.ref r1), .val (.ref x13), .val (.ref x33)] [(.int ((0 : Int32) + (own_I (own_res clb).1))), (.ref r0)])) rfl rfl (hb hby dke_128)
  have N57 := Fr.snoc X57 N54 gt
  have K57 : Keep h0 h57 [r0] := K33.wr W57 (Or.inl (by simp))
  have Fw57 := f53.same W57
  refine own_go st57 ?_
  show own_Fin p.tables e below (T57.setTop (mkF m 131 #[.val (.ref r0), .val (.ref r1), .val (.ref x13), .val (.ref x33)] [])) _
  refine own_go (B := T57.setTop (mkF m 133 #[.val (.ref r0), .val (.ref r1), .val (.ref x13), .val (.ref x33)] [(.ref r0), (.ref r0)])) (fun t k => ?_) ?_
  · show Steps p.tables e below (T57.setTop (mkF m 131 #[.val (.ref r0), .val (.ref r1), .val (.ref x13), .val (.ref x33)] [])) t
    refine XS.aloadN X57.here hx rfl (hb hby dke_131) rfl rfl ?_
    refine XS.dup X57.here hx rfl (hb hby dke_132) rfl rfl ?_
    exact k
  have f60 := (((((Fle.keep Kq5 nin0).keep Kq11 nin0).keep Kq13 nin0).keep Kq33 nin0).other W57 (Or.inr (slot_ne (Or.inl (hw _ (List.mem_of_getElem? (i := 16) rfl))) (Or.inl (hw _ (List.mem_of_getElem? (i := 112) rfl))) (by decide) (t := .int) (t' := .int) (by decide) (by decide))))
  obtain ⟨T59, X59, e59, st59⟩ := getF X57 hx hZ hown (host := "") (Or.inl (hw _ (List.mem_of_getElem? (i := 15) rfl))) Via.refl e57 f60 (g := (mkF m 133 #[.val (.ref r0), .val (.ref r1), .val (.ref x13), .val (.ref x33)] [(.ref r0), (.ref r0)])) rfl rfl (hb hby dke_133)
  refine own_go st59 ?_
  show own_Fin p.tables e below (T59.setTop (mkF m 136 #[.val (.ref r0), .val (.ref r1), .val (.ref x13), .val (.ref x33)] [(.int (6 : Int32)), (.ref r0)])) _
  refine own_go (B := T59.setTop (mkF m 137 #[.val (.ref r0), .val (.ref r1), .val (.ref x13), .val (.ref x33)] [(.ref r1), (.int (6 : Int32)), (.ref r0)])) (fun t k => ?_) ?_
  · show Steps p.tables e below (T59.setTop (mkF m 136 #[.val (.ref r0), .val (.ref r1), .val (.ref x13), .val (.ref x33)] [(.int (6 : Int32)), (.ref r0)])) t
    refine XS.aloadN X59.here hx rfl (hb hby dke_136) rfl rfl ?_
    exact k
  have f62 := (f50.other W57 ner)
  obtain ⟨cl61, Ar61, -, S61, M61, -, -⟩ := id f62
  refine own_go (B := T59.setTop (mkF m 138 #[.val (.ref r0), .val (.ref r1), .val (.ref x13), .val (.ref x33)] [(.int (own_I nn)), (.int (6 : Int32)), (.ref r0)])) (fun t k => ?_) ?_
  · refine X59.arraylength hx (by first | exact Ar61.1 | (rw [e59]; exact Ar61.1)) (State.isArrayOf_alike hZ.alike Ar61.2.1) (g := (mkF m 137 #[.val (.ref r0), .val (.ref r1), .val (.ref x13), .val (.ref x33)] [(.ref r1), (.int (6 : Int32)), (.ref r0)])) rfl rfl (hb hby dke_137) _ ?_
    rw [len_of S61 M61]
    exact k
  refine own_go (B := T59.setTop (mkF m 139 #[.val (.ref r0), .val (.ref r1), .val (.ref x13), .val (.ref x33)] [(.int ((6 : Int32) - (own_I nn))), (.ref r0)])) (fun t k => ?_) ?_
  · show Steps p.tables e below (T59.setTop (mkF m 138 #[.val (.ref r0), .val (.ref r1), .val (.ref x13), .val (.ref x33)] [(.int (own_I nn)), (.int (6 : Int32)), (.ref r0)])) t
    refine XS.isub X59.here hx rfl (hb hby dke_138) rfl ?_
    exact k
  have f64 := (f58.wr W57)
  obtain ⟨T63, h63, X63, e63, W63, st63⟩ := putF X59 hx hZ hown (host := "") (Or.inl (hw _ (List.mem_of_getElem? (i := 15) rfl))) Via.refl e59 f60 f64 (Or.inl (hw _ (List.mem_of_getElem? (i := 16) rfl))) (hw _ (List.mem_of_getElem? (i := 7) rfl)) (ty := .int) (by decide) rfl rfl (g := (mkF m 139 #[.val (.ref r0), .val (.ref r1), .val (.ref x13), .val (.ref x33)] [(.int ((6 : Int32) - (own_I nn))), (.ref r0)])) rfl rfl (hb hby dke_139)
  have N63 := Fr.snoc X63 N57 gt
  have K63 : Keep h0 h63 [r0] := K57.wr W63 (Or.inl (by simp))
  have Fw63 := f60.same W63
  refine own_go st63 ?_
  show own_Fin p.tables e below (T63.setTop (mkF m 142 #[.val (.ref r0), .val (.ref r1), .val (.ref x13), .val (.ref x33)] [])) _
  refine own_go (B := T63.setTop (mkF m 143 #[.val (.ref r0), .val (.ref r1), .val (.ref x13), .val (.ref x33)] [(.ref r0)])) (fun t k => ?_) ?_
  · show Steps p.tables e below (T63.setTop (mkF m 142 #[.val (.ref r0), .val (.ref r1), .val (.ref x13), .val (.ref x33)] [])) t
    refine XS.aloadN X63.here hx rfl (hb hby dke_142) rfl rfl ?_
    exact k
  obtain ⟨T65, X65, e65, st65⟩ := getF X63 hx hZ hown (host := "") (Or.inl (hw _ (List.mem_of_getElem? (i := 15) rfl))) Via.refl e63 Fw63 (g := (mkF m 143 #[.val (.ref r0), .val (.ref r1), .val (.ref x13), .val (.ref x33)] [(.ref r0)])) rfl rfl (hb hby dke_143)
  refine own_go st65 ?_
  show own_Fin p.tables e below (T65.setTop (mkF m 146 #[.val (.ref r0), .val (.ref r1), .val (.ref x13), .val (.ref x33)] [(.int ((6 : Int32) - (own_I nn)))])) _
  by_cases hc66 : ((6 : Int32) - (own_I nn)) = (0 : Int32)
  · skip
    refine own_go (B := T65.setTop (mkF m 152 #[.val (.ref r0), .val (.ref r1), .val (.ref x13), .val (.ref x33)] [(.int (6 : Int32)), (.ref r0)])) (fun t k => ?_) ?_
    · show Steps p.tables e below (T65.setTop (mkF m 146 #[.val (.ref r0), .val (.ref r1), .val (.ref x13), .val (.ref x33)] [(.int ((6 : Int32) - (own_I nn)))])) t
      refine XS.ifNo X65.here hx rfl (hb hby dke_146) rfl ((if0 _ _).trans (teq hc66).2) ?_
      refine XS.aloadN X65.here hx rfl (hb hby dke_149) rfl rfl ?_
      refine XS.bipush X65.here hx rfl (hb hby dke_150) ?_
      exact k
    have f68 := (f64.wr W63)
    obtain ⟨T67, h67, X67, e67, W67, st67⟩ := putF X65 hx hZ hown (host := "") (Or.inl (hw _ (List.mem_of_getElem? (i := 15) rfl))) Via.refl e65 Fw63 f68 (Or.inl (hw _ (List.mem_of_getElem? (i := 16) rfl))) (hw _ (List.mem_of_getElem? (i := 7) rfl)) (ty := .int) (by decide) rfl rfl (g := (mkF m 152 #[.val (.ref r0), .val (.ref r1), .val (.ref x13), .val (.ref x33)] [(.int (6 : Int32)), (.ref r0)])) rfl rfl (hb hby dke_152)
    have N67 := Fr.snoc X67 N63 gt
    have K67 : Keep h0 h67 [r0] := K63.wr W67 (Or.inl (by simp))
    have Fw67 := Fw63.same W67
    refine own_go st67 ?_
    show own_Fin p.tables e below (T67.setTop (mkF m 155 #[.val (.ref r0), .val (.ref r1), .val (.ref x13), .val (.ref x33)] [])) _
    refine own_go (B := T67.setTop (mkF m 157 #[.val (.ref r0), .val (.ref r1), .val (.ref x13), .val (.ref x33)] [.null, (.ref r0)])) (fun t k => ?_) ?_
    · show Steps p.tables e below (T67.setTop (mkF m 155 #[.val (.ref r0), .val (.ref r1), .val (.ref x13), .val (.ref x33)] [])) t
      refine XS.aloadN X67.here hx rfl (hb hby dke_155) rfl rfl ?_
      refine XS.aconstNull X67.here hx rfl (hb hby dke_156) ?_
      exact k
    have f70 := (((((((Fth.keep Kq5 nin0).keep Kq11 nin0).keep Kq13 nin0).keep Kq33 nin0).other W57 (Or.inr (slot_ne (Or.inl (hw _ (List.mem_of_getElem? (i := 23) rfl))) (Or.inl (hw _ (List.mem_of_getElem? (i := 112) rfl))) (by decide) (t := (.array .int)) (t' := .int) (by decide) (by decide)))).other W63 (Or.inr (slot_ne (Or.inl (hw _ (List.mem_of_getElem? (i := 23) rfl))) (Or.inl (hw _ (List.mem_of_getElem? (i := 16) rfl))) (by decide) (t := (.array .int)) (t' := .int) (by decide) (by decide)))).other W67 (Or.inr (slot_ne (Or.inl (hw _ (List.mem_of_getElem? (i := 23) rfl))) (Or.inl (hw _ (List.mem_of_getElem? (i := 16) rfl))) (by decide) (t := (.array .int)) (t' := .int) (by decide) (by decide))))
    have f71 := (f68.wr W67)
    obtain ⟨T69, h69, X69, e69, W69, st69⟩ := putF X67 hx hZ hown (host := "") (Or.inl (hw _ (List.mem_of_getElem? (i := 22) rfl))) Via.refl e67 f70 f71 (Or.inl (hw _ (List.mem_of_getElem? (i := 23) rfl))) (hw _ (List.mem_of_getElem? (i := 7) rfl)) (ty := (.array .int)) (by decide) rfl rfl (g := (mkF m 157 #[.val (.ref r0), .val (.ref r1), .val (.ref x13), .val (.ref x33)] [.null, (.ref r0)])) rfl rfl (hb hby dke_157)
    have N69 := Fr.snoc X69 N67 gt
    have K69 : Keep h0 h69 [r0] := K67.wr W69 (Or.inl (by simp))
    have Fw69 := f70.same W69
    refine own_go st69 ?_
    show own_Fin p.tables e below (T69.setTop (mkF m 160 #[.val (.ref r0), .val (.ref r1), .val (.ref x13), .val (.ref x33)] [])) _
    obtain ⟨fs, hr, hrun, hended, hW, hsame⟩ := X69.leave (v := none) (fun _ => rfl)
    refine ⟨_, _, ?_, hrun, hended, _, _, rfl, ?_, ⟨_, rfl⟩, hW, hsame.mono (by decide) (by decide)⟩
    · exact X69.returnOut hx Bd.returns (hb hby dke_160) hr
    · show Qke Z r0 r1 s1 s3 kS kT u ku kc nn ds cl es clb h0 n0 _ T69.heap _
      rw [e69]
      have f73 := (f71.wr W69)
      exact ⟨rfl, N69, K69, f73, Fw69⟩
  · skip
    refine own_go (B := T65.setTop (mkF m 157 #[.val (.ref r0), .val (.ref r1), .val (.ref x13), .val (.ref x33)] [.null, (.ref r0)])) (fun t k => ?_) ?_
    · show Steps p.tables e below (T65.setTop (mkF m 146 #[.val (.ref r0), .val (.ref r1), .val (.ref x13), .val (.ref x33)] [(.int ((6 : Int32) - (own_I nn)))])) t
      refine XS.ifYes X65.here hx rfl (pc0 := 146) (pc' := 155) rfl (hb hby dke_146) rfl ((if0 _ _).trans (feq hc66).2) (by decide) (by decide) ?_
      refine XS.aloadN X65.here hx rfl (hb hby dke_155) rfl rfl ?_
      refine XS.aconstNull X65.here hx rfl (hb hby dke_156) ?_
      exact k
    have f75 := ((((((Fth.keep Kq5 nin0).keep Kq11 nin0).keep Kq13 nin0).keep Kq33 nin0).other W57 (Or.inr (slot_ne (Or.inl (hw _ (List.mem_of_getElem? (i := 23) rfl))) (Or.inl (hw _ (List.mem_of_getElem? (i := 112) rfl))) (by decide) (t := (.array .int)) (t' := .int) (by decide) (by decide)))).other W63 (Or.inr (slot_ne (Or.inl (hw _ (List.mem_of_getElem? (i := 23) rfl))) (Or.inl (hw _ (List.mem_of_getElem? (i := 16) rfl))) (by decide) (t := (.array .int)) (t' := .int) (by decide) (by decide))))
    have f76 := (f64.wr W63)
    obtain ⟨T74, h74, X74, e74, W74, st74⟩ := putF X65 hx hZ hown (host := "") (Or.inl (hw _ (List.mem_of_getElem? (i := 22) rfl))) Via.refl e65 f75 f76 (Or.inl (hw _ (List.mem_of_getElem? (i := 23) rfl))) (hw _ (List.mem_of_getElem? (i := 7) rfl)) (ty := (.array .int)) (by decide) rfl rfl (g := (mkF m 157 #[.val (.ref r0), .val (.ref r1), .val (.ref x13), .val (.ref x33)] [.null, (.ref r0)])) rfl rfl (hb hby dke_157)
    have N74 := Fr.snoc X74 N63 gt
    have K74 : Keep h0 h74 [r0] := K63.wr W74 (Or.inl (by simp))
    have Fw74 := f75.same W74
    refine own_go st74 ?_
    show own_Fin p.tables e below (T74.setTop (mkF m 160 #[.val (.ref r0), .val (.ref r1), .val (.ref x13), .val (.ref x33)] [])) _
    obtain ⟨fs, hr, hrun, hended, hW, hsame⟩ := X74.leave (v := none) (fun _ => rfl)
    refine ⟨_, _, ?_, hrun, hended, _, _, rfl, ?_, ⟨_, rfl⟩, hW, hsame.mono (by decide) (by decide)⟩
    · exact X74.returnOut hx Bd.returns (hb hby dke_160) hr
    · show Qke Z r0 r1 s1 s3 kS kT u ku kc nn ds cl es clb h0 n0 _ T74.heap _
      rw [e74]
      have f78 := (f76.wr W74)
      exact ⟨rfl, N74, K74, f78, Fw74⟩
theorem pn0 : plainName "com/example/rollhaus/rollhaus/zehntausend/TurnThrownPinLaw" = true := by first | (simp [plainName, overriddenIn]; done) | decide +kernel
theorem pd0_0 : parseMethodDescriptor "(I)I" = some ⟨[.int], some .int⟩ := by decide +kernel
theorem pd0_1 : parseMethodDescriptor "()V" = some ⟨[], none⟩ := by decide +kernel
theorem pd0_2 : parseMethodDescriptor "()[I" = some ⟨[], some (.array .int)⟩ := by decide +kernel
theorem pd0_3 : parseMethodDescriptor "([I)Lcom/example/rollhaus/rollhaus/zehntausend/Scoring;" = some ⟨[(.array .int)], some (.object "com/example/rollhaus/rollhaus/zehntausend/Scoring")⟩ := by decide +kernel
theorem pd0_4 : parseMethodDescriptor "([I[I)Z" = some ⟨[(.array .int), (.array .int)], some .boolean⟩ := by decide +kernel
theorem pd0_5 : parseMethodDescriptor "()I" = some ⟨[], some .int⟩ := by decide +kernel
theorem pd0_6 : parseMethodDescriptor "([I)V" = some ⟨[(.array .int)], none⟩ := by decide +kernel
theorem ef0 (m : MethodId) (z0 : Int32) (z1 : Int32) (z2 : Int32) (z3 : Int32) (z4 : Int32) (z5 : Int32) : entryFrame m #[(.int z0), (.int z1), (.int z2), (.int z3), (.int z4), (.int z5)] maxLocals = mkF m 0 #[.val (.int z0), .val (.int z1), .val (.int z2), .val (.int z3), .val (.int z4), .val (.int z5), .unset, .unset, .unset, .unset, .unset, .unset, .unset, .unset] [] := by first | (simp [entryFrame, mkF, argsToLocals, Value.category, maxLocals]; done) | rfl
def Q0 (Z : State) (p0 : Int32) (p1 : Int32) (p2 : Int32) (p3 : Int32) (p4 : Int32) (p5 : Int32) (s1 : Addr) (s3 : Addr) (kS : ClassId) (kT : ClassId) (h0 : Heap) (n0 : Nat) (v : Option Value) (h : Heap) (L : List Loc) : Prop := v = some (.int 1) ∧ Fr n0 L
set_option maxRecDepth 65536 in
set_option maxHeartbeats 40000000 in
theorem rm0 (l : Launch) (Z : State) (a0 : Array Value) (hw : ∀ d ∈ tables_1, d.before a0 Z = true) (ws : List Jvm.Cond) (p0 : Int32) (p1 : Int32) (p2 : Int32) (p3 : Int32) (p4 : Int32) (p5 : Int32) (s1 : Addr) (s3 : Addr) (kS : ClassId) (kT : ClassId) (h0 : Heap) (n0 : Nat) (Z0 : n0 ≤ h0.size) (O0 : Old Z n0 h0) (Ssg : Sta Z Z.heap "com/example/rollhaus/rollhaus/zehntausend/Scoring" "SINGLE" "[I" (.ref s1)) (Sth : Sta Z Z.heap "com/example/rollhaus/rollhaus/zehntausend/Scoring" "THREE_ALIKE" "[I" (.ref s3)) (Vsg : Arv Z h0 s1 kS .int (7 : Int32) (own_S.map own_V) (.int (0 : Int32))) (Vth : Arv Z h0 s3 kT .int (7 : Int32) (own_T.map own_V) (.int (0 : Int32))) :
    MetFree l x (head1 (Jvm.Cond.code x code maxLocals ret :: ws) room_1) (fun a U => a = #[(.int p0), (.int p1), (.int p2), (.int p3), (.int p4), (.int p5)] ∧ Z.Warmed39 U.vm ∧ U.heap = h0) (fun _ _ _ _ _ => True) (fun _ U o U' => ∃ v L, o = .returned v ∧ Q0 Z p0 p1 p2 p3 p4 p5 s1 s3 kS kT h0 n0 v U'.heap L ∧ FrameEnd U o U' L room_1.cells room_1.slots) := by
  refine MetFree.of_bodySF (plainFor_of_name pn0) hisR ?_
  intro p e s m args below meth c s₁ Bd hml0 hP hK
  obtain ⟨rfl, hZ, hh⟩ := hP
  have hx := Bd.exec
  have hby := Bd.bytes
  have hml : c.maxLocals = 14 := hml0
  have hown : s.vm.findClass "com/example/rollhaus/rollhaus/zehntausend/TurnThrownPinLaw" = some m.cls := findClass_of_methodNamed Bd.named
  have hnm := (name_of_methodNamed Bd.named Bd.method).1
  have X0 : Stand p l e room_1 s m #[(.int p0), (.int p1), (.int p2), (.int p3), (.int p4), (.int p5)] below meth c s₁ [] 0 0 := Stand.of_body Bd
  have e0 : s₁.heap = h0 := by rw [← hh, Bd.state]; rfl
  have N0 := Fr.nil n0
  have K0 : Keep h0 h0 [] := Keep.refl h0 _
  refine own_in ?_
  refine own_go (B := s₁.setTop (mkF m 0 #[.val (.int p0), .val (.int p1), .val (.int p2), .val (.int p3), .val (.int p4), .val (.int p5), .unset, .unset, .unset, .unset, .unset, .unset, .unset, .unset] [])) (fun t k => castTop (ef0 m p0 p1 p2 p3 p4 p5) k) ?_
  refine own_go (B := s₁.setTop (mkF m 2 #[.val (.int p0), .val (.int p1), .val (.int p2), .val (.int p3), .val (.int p4), .val (.int p5), .unset, .unset, .unset, .unset, .unset, .unset, .unset, .unset] [(.int (6 : Int32))])) (fun t k => ?_) ?_
  · show Steps p.tables e below (s₁.setTop (mkF m 0 #[.val (.int p0), .val (.int p1), .val (.int p2), .val (.int p3), .val (.int p4), .val (.int p5), .unset, .unset, .unset, .unset, .unset, .unset, .unset, .unset] [])) t
    refine XS.bipush X0.here hx rfl (hb hby at_0) ?_
    exact k
  obtain ⟨T1, h1, k1, X1, e1, E1, A1, EA1, st1⟩ := newPE X0 hx hZ (hw _ (List.mem_of_getElem? (i := 0) rfl)) e0 (g := (mkF m 2 #[.val (.int p0), .val (.int p1), .val (.int p2), .val (.int p3), .val (.int p4), .val (.int p5), .unset, .unset, .unset, .unset, .unset, .unset, .unset, .unset] [(.int (6 : Int32))])) rfl (hb hby at_2) rfl (by decide) (cap := 6) (by decide) (by decide) (by decide) (by decide) (ad := "[I") (by decide)
  obtain ⟨b1, g1⟩ : ∃ z, z = h0.size := ⟨_, rfl⟩
  rw [← g1] at A1 EA1 st1
  have g_b1 : n0 ≤ b1 := by rw [g1]; exact Z0
  have sz_b1 : h0.size ≤ b1 := by rw [g1]; exact K0.1
  have ne2 : s1 ≠ b1 := Nat.ne_of_lt (by rw [g1]; exact Vsg.lt)
  have ne3 : s3 ≠ b1 := Nat.ne_of_lt (by rw [g1]; exact Vth.lt)
  have K1 : Keep h0 h1 [] := K0.ext E1
  have X1 : Stand p l e room_1 s m #[(.int p0), (.int p1), (.int p2), (.int p3), (.int p4), (.int p5)] below meth c T1 _ 1 6 := X1
  have V_b1 : Arv Z h1 b1 k1 .int (6 : Int32) [(.int (0 : Int32)), (.int (0 : Int32)), (.int (0 : Int32)), (.int (0 : Int32)), (.int (0 : Int32)), (.int (0 : Int32))] (.int (0 : Int32)) := (Arv.new A1 (by decide)).pad (pad_rep [] (.int (0 : Int32)) 6)
  refine own_go st1 ?_
  show own_Fin p.tables e below (T1.setTop (mkF m 4 #[.val (.int p0), .val (.int p1), .val (.int p2), .val (.int p3), .val (.int p4), .val (.int p5), .unset, .unset, .unset, .unset, .unset, .unset, .unset, .unset] [(.ref b1)])) _
  refine own_go (B := T1.setTop (mkF m 10 #[.val (.int p0), .val (.int p1), .val (.int p2), .val (.int p3), .val (.int p4), .val (.int p5), .val (.ref b1), .unset, .unset, .unset, .unset, .unset, .unset, .unset] [(.int p0), (.int (0 : Int32)), (.ref b1)])) (fun t k => ?_) ?_
  · show Steps p.tables e below (T1.setTop (mkF m 4 #[.val (.int p0), .val (.int p1), .val (.int p2), .val (.int p3), .val (.int p4), .val (.int p5), .unset, .unset, .unset, .unset, .unset, .unset, .unset, .unset] [(.ref b1)])) t
    refine XS.astore X1.here hx rfl (hb hby at_4) rfl rfl (l' := #[.val (.int p0), .val (.int p1), .val (.int p2), .val (.int p3), .val (.int p4), .val (.int p5), .val (.ref b1), .unset, .unset, .unset, .unset, .unset, .unset, .unset]) rfl ?_
    refine XS.aload X1.here hx rfl (hb hby at_6) rfl rfl ?_
    refine XS.iconst X1.here hx rfl (hb hby at_8) ?_
    refine XS.iloadN X1.here hx rfl (hb hby at_9) rfl ?_
    exact k
  obtain ⟨_, _, ⟨T4, L4, k4, n4⟩, -, X4, ⟨Lc4, hQ4, l4, y4, z4⟩, st4⟩ := Jvm.LawKit.callS X1 hx (y := (⟨"com/example/rollhaus/rollhaus/zehntausend/TurnThrownPinLaw", "face", "(I)I"⟩ : MethodName)) hown (mvT hZ (hw _ (List.mem_of_getElem? (i := 1) rfl))) (mvT hZ (hw _ (List.mem_of_getElem? (i := 2) rfl))) (mvT hZ (hw _ (List.mem_of_getElem? (i := 3) rfl))) (mvT hZ (hw _ (List.mem_of_getElem? (i := 4) rfl))) (by decide) (backOf (W := 2) (rmfa l Z a0 hw [] p0 h1 n0 (Nat.le_trans Z0 K1.1)) hZ (hw _ (List.mem_of_getElem? (i := 4) rfl)) (hw _ (List.mem_of_getElem? (i := 3) rfl)) (by decide) (by decide)) (g := (mkF m 10 #[.val (.int p0), .val (.int p1), .val (.int p2), .val (.int p3), .val (.int p4), .val (.int p5), .val (.ref b1), .unset, .unset, .unset, .unset, .unset, .unset, .unset] [(.int p0), (.int (0 : Int32)), (.ref b1)])) rfl (by rw [hml]; rfl) (argsL := [(.int p0)]) (rest := [(.int (0 : Int32)), (.ref b1)]) (lenOf pd0_0 rfl) rfl (by show 2 * 0 + _ ≤ _; exact Nat.le_of_eq rfl) (hb hby at_10) (fun _ _ => ⟨rfl, e1, (by decide : 1 + 0 ≤ _), (by decide : 6 + 0 ≤ _)⟩)
  dsimp only [Pt.U, Pt.locs, Pt.cells, Pt.slots] at X4 l4 y4 z4 st4 hQ4
  subst y4 z4
  have X4 : Stand p l e room_1 s m #[(.int p0), (.int p1), (.int p2), (.int p3), (.int p4), (.int p5)] below meth c T4 _ 1 6 := X4
  obtain ⟨d0, ha0, hb0, rfl, N4q, e4⟩ := hQ4
  have N4 : Fr n0 L4 := by rw [l4]; exact Fr.app N0 N4q
  refine own_go (st4) ?_
  show own_Fin p.tables e below (T4.setTop (mkF m 13 #[.val (.int p0), .val (.int p1), .val (.int p2), .val (.int p3), .val (.int p4), .val (.int p5), .val (.ref b1), .unset, .unset, .unset, .unset, .unset, .unset, .unset] [(.int (own_I d0)), (.int (0 : Int32)), (.ref b1)])) _
  obtain ⟨cl5, Ar5, q5, S5, M5, Ha5, G5⟩ := id V_b1
  have hin5 : ¬ ((0 : Int32) < 0 ∨ cl5.slots.size ≤ ((0 : Int32)).toNatClampNeg) := inb_of S5 ⟨by decide, by decide⟩
  obtain ⟨T5, h5, X5, e5, W5, st5⟩ := stI X4 hx hZ e4 Ar5 (j := (0 : Int32)) hin5 (g := (mkF m 13 #[.val (.int p0), .val (.int p1), .val (.int p2), .val (.int p3), .val (.int p4), .val (.int p5), .val (.ref b1), .unset, .unset, .unset, .unset, .unset, .unset, .unset] [(.int (own_I d0)), (.int (0 : Int32)), (.ref b1)])) rfl rfl (hb hby at_13)
  have N5 := Fr.snoc X5 N4 g_b1
  have K5 : Keep h0 h5 [] := K1.wr W5 (Or.inr sz_b1)
  have V5 : Arv Z h5 b1 k1 .int (6 : Int32) [(.int (own_I d0)), (.int (0 : Int32)), (.int (0 : Int32)), (.int (0 : Int32)), (.int (0 : Int32)), (.int (0 : Int32))] (.int (0 : Int32)) := Arv.set Ar5 q5 S5 M5 Ha5 G5 rfl W5 0 rfl (Nat.le_of_ble_eq_true rfl)
  refine own_go st5 ?_
  show own_Fin p.tables e below (T5.setTop (mkF m 14 #[.val (.int p0), .val (.int p1), .val (.int p2), .val (.int p3), .val (.int p4), .val (.int p5), .val (.ref b1), .unset, .unset, .unset, .unset, .unset, .unset, .unset] [])) _
  refine own_go (B := T5.setTop (mkF m 18 #[.val (.int p0), .val (.int p1), .val (.int p2), .val (.int p3), .val (.int p4), .val (.int p5), .val (.ref b1), .unset, .unset, .unset, .unset, .unset, .unset, .unset] [(.int p1), (.int (1 : Int32)), (.ref b1)])) (fun t k => ?_) ?_
  · show Steps p.tables e below (T5.setTop (mkF m 14 #[.val (.int p0), .val (.int p1), .val (.int p2), .val (.int p3), .val (.int p4), .val (.int p5), .val (.ref b1), .unset, .unset, .unset, .unset, .unset, .unset, .unset] [])) t
    refine XS.aload X5.here hx rfl (hb hby at_14) rfl rfl ?_
    refine XS.iconst X5.here hx rfl (hb hby at_16) ?_
    refine XS.iloadN X5.here hx rfl (hb hby at_17) rfl ?_
    exact k
  obtain ⟨_, _, ⟨T6, L6, k6, n6⟩, -, X6, ⟨Lc6, hQ6, l6, y6, z6⟩, st6⟩ := Jvm.LawKit.callS X5 hx (y := (⟨"com/example/rollhaus/rollhaus/zehntausend/TurnThrownPinLaw", "face", "(I)I"⟩ : MethodName)) hown (mvT hZ (hw _ (List.mem_of_getElem? (i := 1) rfl))) (mvT hZ (hw _ (List.mem_of_getElem? (i := 2) rfl))) (mvT hZ (hw _ (List.mem_of_getElem? (i := 3) rfl))) (mvT hZ (hw _ (List.mem_of_getElem? (i := 4) rfl))) (by decide) (backOf (W := 2) (rmfa l Z a0 hw [] p1 h5 n0 (Nat.le_trans Z0 K5.1)) hZ (hw _ (List.mem_of_getElem? (i := 4) rfl)) (hw _ (List.mem_of_getElem? (i := 3) rfl)) (by decide) (by decide)) (g := (mkF m 18 #[.val (.int p0), .val (.int p1), .val (.int p2), .val (.int p3), .val (.int p4), .val (.int p5), .val (.ref b1), .unset, .unset, .unset, .unset, .unset, .unset, .unset] [(.int p1), (.int (1 : Int32)), (.ref b1)])) rfl (by rw [hml]; rfl) (argsL := [(.int p1)]) (rest := [(.int (1 : Int32)), (.ref b1)]) (lenOf pd0_0 rfl) rfl (by show 2 * 0 + _ ≤ _; exact Nat.le_of_eq rfl) (hb hby at_18) (fun _ _ => ⟨rfl, e5, (by decide : 1 + 0 ≤ _), (by decide : 6 + 0 ≤ _)⟩)
  dsimp only [Pt.U, Pt.locs, Pt.cells, Pt.slots] at X6 l6 y6 z6 st6 hQ6
  subst y6 z6
  have X6 : Stand p l e room_1 s m #[(.int p0), (.int p1), (.int p2), (.int p3), (.int p4), (.int p5)] below meth c T6 _ 1 6 := X6
  obtain ⟨d1, ha1, hb1, rfl, N6q, e6⟩ := hQ6
  have N6 : Fr n0 L6 := by rw [l6]; exact Fr.app N5 N6q
  refine own_go (st6) ?_
  show own_Fin p.tables e below (T6.setTop (mkF m 21 #[.val (.int p0), .val (.int p1), .val (.int p2), .val (.int p3), .val (.int p4), .val (.int p5), .val (.ref b1), .unset, .unset, .unset, .unset, .unset, .unset, .unset] [(.int (own_I d1)), (.int (1 : Int32)), (.ref b1)])) _
  obtain ⟨cl7, Ar7, q7, S7, M7, Ha7, G7⟩ := id V5
  have hin7 : ¬ ((1 : Int32) < 0 ∨ cl7.slots.size ≤ ((1 : Int32)).toNatClampNeg) := inb_of S7 ⟨by decide, by decide⟩
  obtain ⟨T7, h7, X7, e7, W7, st7⟩ := stI X6 hx hZ e6 Ar7 (j := (1 : Int32)) hin7 (g := (mkF m 21 #[.val (.int p0), .val (.int p1), .val (.int p2), .val (.int p3), .val (.int p4), .val (.int p5), .val (.ref b1), .unset, .unset, .unset, .unset, .unset, .unset, .unset] [(.int (own_I d1)), (.int (1 : Int32)), (.ref b1)])) rfl rfl (hb hby at_21)
  have N7 := Fr.snoc X7 N6 g_b1
  have K7 : Keep h0 h7 [] := K5.wr W7 (Or.inr sz_b1)
  have V7 : Arv Z h7 b1 k1 .int (6 : Int32) [(.int (own_I d0)), (.int (own_I d1)), (.int (0 : Int32)), (.int (0 : Int32)), (.int (0 : Int32)), (.int (0 : Int32))] (.int (0 : Int32)) := Arv.set Ar7 q7 S7 M7 Ha7 G7 rfl W7 1 rfl (Nat.le_of_ble_eq_true rfl)
  refine own_go st7 ?_
  show own_Fin p.tables e below (T7.setTop (mkF m 22 #[.val (.int p0), .val (.int p1), .val (.int p2), .val (.int p3), .val (.int p4), .val (.int p5), .val (.ref b1), .unset, .unset, .unset, .unset, .unset, .unset, .unset] [])) _
  refine own_go (B := T7.setTop (mkF m 26 #[.val (.int p0), .val (.int p1), .val (.int p2), .val (.int p3), .val (.int p4), .val (.int p5), .val (.ref b1), .unset, .unset, .unset, .unset, .unset, .unset, .unset] [(.int p2), (.int (2 : Int32)), (.ref b1)])) (fun t k => ?_) ?_
  · show Steps p.tables e below (T7.setTop (mkF m 22 #[.val (.int p0), .val (.int p1), .val (.int p2), .val (.int p3), .val (.int p4), .val (.int p5), .val (.ref b1), .unset, .unset, .unset, .unset, .unset, .unset, .unset] [])) t
    refine XS.aload X7.here hx rfl (hb hby at_22) rfl rfl ?_
    refine XS.iconst X7.here hx rfl (hb hby at_24) ?_
    refine XS.iloadN X7.here hx rfl (hb hby at_25) rfl ?_
    exact k
  obtain ⟨_, _, ⟨T8, L8, k8, n8⟩, -, X8, ⟨Lc8, hQ8, l8, y8, z8⟩, st8⟩ := Jvm.LawKit.callS X7 hx (y := (⟨"com/example/rollhaus/rollhaus/zehntausend/TurnThrownPinLaw", "face", "(I)I"⟩ : MethodName)) hown (mvT hZ (hw _ (List.mem_of_getElem? (i := 1) rfl))) (mvT hZ (hw _ (List.mem_of_getElem? (i := 2) rfl))) (mvT hZ (hw _ (List.mem_of_getElem? (i := 3) rfl))) (mvT hZ (hw _ (List.mem_of_getElem? (i := 4) rfl))) (by decide) (backOf (W := 2) (rmfa l Z a0 hw [] p2 h7 n0 (Nat.le_trans Z0 K7.1)) hZ (hw _ (List.mem_of_getElem? (i := 4) rfl)) (hw _ (List.mem_of_getElem? (i := 3) rfl)) (by decide) (by decide)) (g := (mkF m 26 #[.val (.int p0), .val (.int p1), .val (.int p2), .val (.int p3), .val (.int p4), .val (.int p5), .val (.ref b1), .unset, .unset, .unset, .unset, .unset, .unset, .unset] [(.int p2), (.int (2 : Int32)), (.ref b1)])) rfl (by rw [hml]; rfl) (argsL := [(.int p2)]) (rest := [(.int (2 : Int32)), (.ref b1)]) (lenOf pd0_0 rfl) rfl (by show 2 * 0 + _ ≤ _; exact Nat.le_of_eq rfl) (hb hby at_26) (fun _ _ => ⟨rfl, e7, (by decide : 1 + 0 ≤ _), (by decide : 6 + 0 ≤ _)⟩)
  dsimp only [Pt.U, Pt.locs, Pt.cells, Pt.slots] at X8 l8 y8 z8 st8 hQ8
  subst y8 z8
  have X8 : Stand p l e room_1 s m #[(.int p0), (.int p1), (.int p2), (.int p3), (.int p4), (.int p5)] below meth c T8 _ 1 6 := X8
  obtain ⟨d2, ha2, hb2, rfl, N8q, e8⟩ := hQ8
  have N8 : Fr n0 L8 := by rw [l8]; exact Fr.app N7 N8q
  refine own_go (st8) ?_
  show own_Fin p.tables e below (T8.setTop (mkF m 29 #[.val (.int p0), .val (.int p1), .val (.int p2), .val (.int p3), .val (.int p4), .val (.int p5), .val (.ref b1), .unset, .unset, .unset, .unset, .unset, .unset, .unset] [(.int (own_I d2)), (.int (2 : Int32)), (.ref b1)])) _
  obtain ⟨cl9, Ar9, q9, S9, M9, Ha9, G9⟩ := id V7
  have hin9 : ¬ ((2 : Int32) < 0 ∨ cl9.slots.size ≤ ((2 : Int32)).toNatClampNeg) := inb_of S9 ⟨by decide, by decide⟩
  obtain ⟨T9, h9, X9, e9, W9, st9⟩ := stI X8 hx hZ e8 Ar9 (j := (2 : Int32)) hin9 (g := (mkF m 29 #[.val (.int p0), .val (.int p1), .val (.int p2), .val (.int p3), .val (.int p4), .val (.int p5), .val (.ref b1), .unset, .unset, .unset, .unset, .unset, .unset, .unset] [(.int (own_I d2)), (.int (2 : Int32)), (.ref b1)])) rfl rfl (hb hby at_29)
  have N9 := Fr.snoc X9 N8 g_b1
  have K9 : Keep h0 h9 [] := K7.wr W9 (Or.inr sz_b1)
  have V9 : Arv Z h9 b1 k1 .int (6 : Int32) [(.int (own_I d0)), (.int (own_I d1)), (.int (own_I d2)), (.int (0 : Int32)), (.int (0 : Int32)), (.int (0 : Int32))] (.int (0 : Int32)) := Arv.set Ar9 q9 S9 M9 Ha9 G9 rfl W9 2 rfl (Nat.le_of_ble_eq_true rfl)
  refine own_go st9 ?_
  show own_Fin p.tables e below (T9.setTop (mkF m 30 #[.val (.int p0), .val (.int p1), .val (.int p2), .val (.int p3), .val (.int p4), .val (.int p5), .val (.ref b1), .unset, .unset, .unset, .unset, .unset, .unset, .unset] [])) _
  refine own_go (B := T9.setTop (mkF m 34 #[.val (.int p0), .val (.int p1), .val (.int p2), .val (.int p3), .val (.int p4), .val (.int p5), .val (.ref b1), .unset, .unset, .unset, .unset, .unset, .unset, .unset] [(.int p3), (.int (3 : Int32)), (.ref b1)])) (fun t k => ?_) ?_
  · show Steps p.tables e below (T9.setTop (mkF m 30 #[.val (.int p0), .val (.int p1), .val (.int p2), .val (.int p3), .val (.int p4), .val (.int p5), .val (.ref b1), .unset, .unset, .unset, .unset, .unset, .unset, .unset] [])) t
    refine XS.aload X9.here hx rfl (hb hby at_30) rfl rfl ?_
    refine XS.iconst X9.here hx rfl (hb hby at_32) ?_
    refine XS.iloadN X9.here hx rfl (hb hby at_33) rfl ?_
    exact k
  obtain ⟨_, _, ⟨T10, L10, k10, n10⟩, -, X10, ⟨Lc10, hQ10, l10, y10, z10⟩, st10⟩ := Jvm.LawKit.callS X9 hx (y := (⟨"com/example/rollhaus/rollhaus/zehntausend/TurnThrownPinLaw", "face", "(I)I"⟩ : MethodName)) hown (mvT hZ (hw _ (List.mem_of_getElem? (i := 1) rfl))) (mvT hZ (hw _ (List.mem_of_getElem? (i := 2) rfl))) (mvT hZ (hw _ (List.mem_of_getElem? (i := 3) rfl))) (mvT hZ (hw _ (List.mem_of_getElem? (i := 4) rfl))) (by decide) (backOf (W := 2) (rmfa l Z a0 hw [] p3 h9 n0 (Nat.le_trans Z0 K9.1)) hZ (hw _ (List.mem_of_getElem? (i := 4) rfl)) (hw _ (List.mem_of_getElem? (i := 3) rfl)) (by decide) (by decide)) (g := (mkF m 34 #[.val (.int p0), .val (.int p1), .val (.int p2), .val (.int p3), .val (.int p4), .val (.int p5), .val (.ref b1), .unset, .unset, .unset, .unset, .unset, .unset, .unset] [(.int p3), (.int (3 : Int32)), (.ref b1)])) rfl (by rw [hml]; rfl) (argsL := [(.int p3)]) (rest := [(.int (3 : Int32)), (.ref b1)]) (lenOf pd0_0 rfl) rfl (by show 2 * 0 + _ ≤ _; exact Nat.le_of_eq rfl) (hb hby at_34) (fun _ _ => ⟨rfl, e9, (by decide : 1 + 0 ≤ _), (by decide : 6 + 0 ≤ _)⟩)
  dsimp only [Pt.U, Pt.locs, Pt.cells, Pt.slots] at X10 l10 y10 z10 st10 hQ10
  subst y10 z10
  have X10 : Stand p l e room_1 s m #[(.int p0), (.int p1), (.int p2), (.int p3), (.int p4), (.int p5)] below meth c T10 _ 1 6 := X10
  obtain ⟨d3, ha3, hb3, rfl, N10q, e10⟩ := hQ10
  have N10 : Fr n0 L10 := by rw [l10]; exact Fr.app N9 N10q
  refine own_go (st10) ?_
  show own_Fin p.tables e below (T10.setTop (mkF m 37 #[.val (.int p0), .val (.int p1), .val (.int p2), .val (.int p3), .val (.int p4), .val (.int p5), .val (.ref b1), .unset, .unset, .unset, .unset, .unset, .unset, .unset] [(.int (own_I d3)), (.int (3 : Int32)), (.ref b1)])) _
  obtain ⟨cl11, Ar11, q11, S11, M11, Ha11, G11⟩ := id V9
  have hin11 : ¬ ((3 : Int32) < 0 ∨ cl11.slots.size ≤ ((3 : Int32)).toNatClampNeg) := inb_of S11 ⟨by decide, by decide⟩
  obtain ⟨T11, h11, X11, e11, W11, st11⟩ := stI X10 hx hZ e10 Ar11 (j := (3 : Int32)) hin11 (g := (mkF m 37 #[.val (.int p0), .val (.int p1), .val (.int p2), .val (.int p3), .val (.int p4), .val (.int p5), .val (.ref b1), .unset, .unset, .unset, .unset, .unset, .unset, .unset] [(.int (own_I d3)), (.int (3 : Int32)), (.ref b1)])) rfl rfl (hb hby at_37)
  have N11 := Fr.snoc X11 N10 g_b1
  have K11 : Keep h0 h11 [] := K9.wr W11 (Or.inr sz_b1)
  have V11 : Arv Z h11 b1 k1 .int (6 : Int32) [(.int (own_I d0)), (.int (own_I d1)), (.int (own_I d2)), (.int (own_I d3)), (.int (0 : Int32)), (.int (0 : Int32))] (.int (0 : Int32)) := Arv.set Ar11 q11 S11 M11 Ha11 G11 rfl W11 3 rfl (Nat.le_of_ble_eq_true rfl)
  refine own_go st11 ?_
  show own_Fin p.tables e below (T11.setTop (mkF m 38 #[.val (.int p0), .val (.int p1), .val (.int p2), .val (.int p3), .val (.int p4), .val (.int p5), .val (.ref b1), .unset, .unset, .unset, .unset, .unset, .unset, .unset] [])) _
  refine own_go (B := T11.setTop (mkF m 43 #[.val (.int p0), .val (.int p1), .val (.int p2), .val (.int p3), .val (.int p4), .val (.int p5), .val (.ref b1), .unset, .unset, .unset, .unset, .unset, .unset, .unset] [(.int p4), (.int (4 : Int32)), (.ref b1)])) (fun t k => ?_) ?_
  · show Steps p.tables e below (T11.setTop (mkF m 38 #[.val (.int p0), .val (.int p1), .val (.int p2), .val (.int p3), .val (.int p4), .val (.int p5), .val (.ref b1), .unset, .unset, .unset, .unset, .unset, .unset, .unset] [])) t
    refine XS.aload X11.here hx rfl (hb hby at_38) rfl rfl ?_
    refine XS.iconst X11.here hx rfl (hb hby at_40) ?_
    refine XS.iload X11.here hx rfl (hb hby at_41) rfl ?_
    exact k
  obtain ⟨_, _, ⟨T12, L12, k12, n12⟩, -, X12, ⟨Lc12, hQ12, l12, y12, z12⟩, st12⟩ := Jvm.LawKit.callS X11 hx (y := (⟨"com/example/rollhaus/rollhaus/zehntausend/TurnThrownPinLaw", "face", "(I)I"⟩ : MethodName)) hown (mvT hZ (hw _ (List.mem_of_getElem? (i := 1) rfl))) (mvT hZ (hw _ (List.mem_of_getElem? (i := 2) rfl))) (mvT hZ (hw _ (List.mem_of_getElem? (i := 3) rfl))) (mvT hZ (hw _ (List.mem_of_getElem? (i := 4) rfl))) (by decide) (backOf (W := 2) (rmfa l Z a0 hw [] p4 h11 n0 (Nat.le_trans Z0 K11.1)) hZ (hw _ (List.mem_of_getElem? (i := 4) rfl)) (hw _ (List.mem_of_getElem? (i := 3) rfl)) (by decide) (by decide)) (g := (mkF m 43 #[.val (.int p0), .val (.int p1), .val (.int p2), .val (.int p3), .val (.int p4), .val (.int p5), .val (.ref b1), .unset, .unset, .unset, .unset, .unset, .unset, .unset] [(.int p4), (.int (4 : Int32)), (.ref b1)])) rfl (by rw [hml]; rfl) (argsL := [(.int p4)]) (rest := [(.int (4 : Int32)), (.ref b1)]) (lenOf pd0_0 rfl) rfl (by show 2 * 0 + _ ≤ _; exact Nat.le_of_eq rfl) (hb hby at_43) (fun _ _ => ⟨rfl, e11, (by decide : 1 + 0 ≤ _), (by decide : 6 + 0 ≤ _)⟩)
  dsimp only [Pt.U, Pt.locs, Pt.cells, Pt.slots] at X12 l12 y12 z12 st12 hQ12
  subst y12 z12
  have X12 : Stand p l e room_1 s m #[(.int p0), (.int p1), (.int p2), (.int p3), (.int p4), (.int p5)] below meth c T12 _ 1 6 := X12
  obtain ⟨d4, ha4, hb4, rfl, N12q, e12⟩ := hQ12
  have N12 : Fr n0 L12 := by rw [l12]; exact Fr.app N11 N12q
  refine own_go (st12) ?_
  show own_Fin p.tables e below (T12.setTop (mkF m 46 #[.val (.int p0), .val (.int p1), .val (.int p2), .val (.int p3), .val (.int p4), .val (.int p5), .val (.ref b1), .unset, .unset, .unset, .unset, .unset, .unset, .unset] [(.int (own_I d4)), (.int (4 : Int32)), (.ref b1)])) _
  obtain ⟨cl13, Ar13, q13, S13, M13, Ha13, G13⟩ := id V11
  have hin13 : ¬ ((4 : Int32) < 0 ∨ cl13.slots.size ≤ ((4 : Int32)).toNatClampNeg) := inb_of S13 ⟨by decide, by decide⟩
  obtain ⟨T13, h13, X13, e13, W13, st13⟩ := stI X12 hx hZ e12 Ar13 (j := (4 : Int32)) hin13 (g := (mkF m 46 #[.val (.int p0), .val (.int p1), .val (.int p2), .val (.int p3), .val (.int p4), .val (.int p5), .val (.ref b1), .unset, .unset, .unset, .unset, .unset, .unset, .unset] [(.int (own_I d4)), (.int (4 : Int32)), (.ref b1)])) rfl rfl (hb hby at_46)
  have N13 := Fr.snoc X13 N12 g_b1
  have K13 : Keep h0 h13 [] := K11.wr W13 (Or.inr sz_b1)
  have V13 : Arv Z h13 b1 k1 .int (6 : Int32) [(.int (own_I d0)), (.int (own_I d1)), (.int (own_I d2)), (.int (own_I d3)), (.int (own_I d4)), (.int (0 : Int32))] (.int (0 : Int32)) := Arv.set Ar13 q13 S13 M13 Ha13 G13 rfl W13 4 rfl (Nat.le_of_ble_eq_true rfl)
  refine own_go st13 ?_
  show own_Fin p.tables e below (T13.setTop (mkF m 47 #[.val (.int p0), .val (.int p1), .val (.int p2), .val (.int p3), .val (.int p4), .val (.int p5), .val (.ref b1), .unset, .unset, .unset, .unset, .unset, .unset, .unset] [])) _
  refine own_go (B := T13.setTop (mkF m 52 #[.val (.int p0), .val (.int p1), .val (.int p2), .val (.int p3), .val (.int p4), .val (.int p5), .val (.ref b1), .unset, .unset, .unset, .unset, .unset, .unset, .unset] [(.int p5), (.int (5 : Int32)), (.ref b1)])) (fun t k => ?_) ?_
  · show Steps p.tables e below (T13.setTop (mkF m 47 #[.val (.int p0), .val (.int p1), .val (.int p2), .val (.int p3), .val (.int p4), .val (.int p5), .val (.ref b1), .unset, .unset, .unset, .unset, .unset, .unset, .unset] [])) t
    refine XS.aload X13.here hx rfl (hb hby at_47) rfl rfl ?_
    refine XS.iconst X13.here hx rfl (hb hby at_49) ?_
    refine XS.iload X13.here hx rfl (hb hby at_50) rfl ?_
    exact k
  obtain ⟨_, _, ⟨T14, L14, k14, n14⟩, -, X14, ⟨Lc14, hQ14, l14, y14, z14⟩, st14⟩ := Jvm.LawKit.callS X13 hx (y := (⟨"com/example/rollhaus/rollhaus/zehntausend/TurnThrownPinLaw", "face", "(I)I"⟩ : MethodName)) hown (mvT hZ (hw _ (List.mem_of_getElem? (i := 1) rfl))) (mvT hZ (hw _ (List.mem_of_getElem? (i := 2) rfl))) (mvT hZ (hw _ (List.mem_of_getElem? (i := 3) rfl))) (mvT hZ (hw _ (List.mem_of_getElem? (i := 4) rfl))) (by decide) (backOf (W := 2) (rmfa l Z a0 hw [] p5 h13 n0 (Nat.le_trans Z0 K13.1)) hZ (hw _ (List.mem_of_getElem? (i := 4) rfl)) (hw _ (List.mem_of_getElem? (i := 3) rfl)) (by decide) (by decide)) (g := (mkF m 52 #[.val (.int p0), .val (.int p1), .val (.int p2), .val (.int p3), .val (.int p4), .val (.int p5), .val (.ref b1), .unset, .unset, .unset, .unset, .unset, .unset, .unset] [(.int p5), (.int (5 : Int32)), (.ref b1)])) rfl (by rw [hml]; rfl) (argsL := [(.int p5)]) (rest := [(.int (5 : Int32)), (.ref b1)]) (lenOf pd0_0 rfl) rfl (by show 2 * 0 + _ ≤ _; exact Nat.le_of_eq rfl) (hb hby at_52) (fun _ _ => ⟨rfl, e13, (by decide : 1 + 0 ≤ _), (by decide : 6 + 0 ≤ _)⟩)
  dsimp only [Pt.U, Pt.locs, Pt.cells, Pt.slots] at X14 l14 y14 z14 st14 hQ14
  subst y14 z14
  have X14 : Stand p l e room_1 s m #[(.int p0), (.int p1), (.int p2), (.int p3), (.int p4), (.int p5)] below meth c T14 _ 1 6 := X14
  obtain ⟨d5, ha5, hb5, rfl, N14q, e14⟩ := hQ14
  have N14 : Fr n0 L14 := by rw [l14]; exact Fr.app N13 N14q
  refine own_go (st14) ?_
  show own_Fin p.tables e below (T14.setTop (mkF m 55 #[.val (.int p0), .val (.int p1), .val (.int p2), .val (.int p3), .val (.int p4), .val (.int p5), .val (.ref b1), .unset, .unset, .unset, .unset, .unset, .unset, .unset] [(.int (own_I d5)), (.int (5 : Int32)), (.ref b1)])) _
  obtain ⟨cl15, Ar15, q15, S15, M15, Ha15, G15⟩ := id V13
  have hin15 : ¬ ((5 : Int32) < 0 ∨ cl15.slots.size ≤ ((5 : Int32)).toNatClampNeg) := inb_of S15 ⟨by decide, by decide⟩
  obtain ⟨T15, h15, X15, e15, W15, st15⟩ := stI X14 hx hZ e14 Ar15 (j := (5 : Int32)) hin15 (g := (mkF m 55 #[.val (.int p0), .val (.int p1), .val (.int p2), .val (.int p3), .val (.int p4), .val (.int p5), .val (.ref b1), .unset, .unset, .unset, .unset, .unset, .unset, .unset] [(.int (own_I d5)), (.int (5 : Int32)), (.ref b1)])) rfl rfl (hb hby at_55)
  have N15 := Fr.snoc X15 N14 g_b1
  have K15 : Keep h0 h15 [] := K13.wr W15 (Or.inr sz_b1)
  have V15 : Arv Z h15 b1 k1 .int (6 : Int32) [(.int (own_I d0)), (.int (own_I d1)), (.int (own_I d2)), (.int (own_I d3)), (.int (own_I d4)), (.int (own_I d5))] (.int (0 : Int32)) := Arv.set Ar15 q15 S15 M15 Ha15 G15 rfl W15 5 rfl (Nat.le_of_ble_eq_true rfl)
  refine own_go st15 ?_
  show own_Fin p.tables e below (T15.setTop (mkF m 56 #[.val (.int p0), .val (.int p1), .val (.int p2), .val (.int p3), .val (.int p4), .val (.int p5), .val (.ref b1), .unset, .unset, .unset, .unset, .unset, .unset, .unset] [])) _
  have hd6 := own_ds6 ⟨ha0, hb0⟩ ⟨ha1, hb1⟩ ⟨ha2, hb2⟩ ⟨ha3, hb3⟩ ⟨ha4, hb4⟩ ⟨ha5, hb5⟩
  obtain ⟨cl, hcl⟩ : ∃ z, own_counts [d0, d1, d2, d3, d4, d5] own_z7 = z := ⟨_, rfl⟩
  have hc7 : cl.length = 7 := by rw [← hcl]; exact own_cl7 _ _ rfl
  have hrem : own_rem cl 6 1 = 6 := by rw [← hcl, own_remC _ _ rfl hd6]; rfl
  have hc00 : cl.getD 0 0 = 0 := by rw [← hcl, own_c0 _ _ hd6]; rfl
  have hgd := own_goodA (own_goodOf hc7 hc00 hrem)
  refine own_go (B := T15.setTop (mkF m 58 #[.val (.int p0), .val (.int p1), .val (.int p2), .val (.int p3), .val (.int p4), .val (.int p5), .val (.ref b1), .unset, .unset, .unset, .unset, .unset, .unset, .unset] [(.int (6 : Int32))])) (fun t k => ?_) ?_
  · show Steps p.tables e below (T15.setTop (mkF m 56 #[.val (.int p0), .val (.int p1), .val (.int p2), .val (.int p3), .val (.int p4), .val (.int p5), .val (.ref b1), .unset, .unset, .unset, .unset, .unset, .unset, .unset] [])) t
    refine XS.bipush X15.here hx rfl (hb hby at_56) ?_
    exact k
  obtain ⟨T16, h16, k16, X16, e16, E16, A16, EA16, st16⟩ := newPE X15 hx hZ (hw _ (List.mem_of_getElem? (i := 0) rfl)) e15 (g := (mkF m 58 #[.val (.int p0), .val (.int p1), .val (.int p2), .val (.int p3), .val (.int p4), .val (.int p5), .val (.ref b1), .unset, .unset, .unset, .unset, .unset, .unset, .unset] [(.int (6 : Int32))])) rfl (hb hby at_58) rfl (by decide) (cap := 6) (by decide) (by decide) (by decide) (by decide) (ad := "[I") (by decide)
  obtain ⟨b16, g16⟩ : ∃ z, z = h15.size := ⟨_, rfl⟩
  rw [← g16] at A16 EA16 st16
  have g_b16 : n0 ≤ b16 := by rw [g16]; exact (Nat.le_trans Z0 K15.1)
  have sz_b16 : h0.size ≤ b16 := by rw [g16]; exact K15.1
  have f17 := (((((((Vsg.ext E1).other W5 ne2).other W7 ne2).other W9 ne2).other W11 ne2).other W13 ne2).other W15 ne2)
  have ne18 : s1 ≠ b16 := Nat.ne_of_lt (by rw [g16]; exact f17.lt)
  have f19 := (((((((Vth.ext E1).other W5 ne3).other W7 ne3).other W9 ne3).other W11 ne3).other W13 ne3).other W15 ne3)
  have ne20 : s3 ≠ b16 := Nat.ne_of_lt (by rw [g16]; exact f19.lt)
  have ne21 : b1 ≠ b16 := Nat.ne_of_lt (by rw [g16]; exact V15.lt)
  have K16 : Keep h0 h16 [] := K15.ext E16
  have X16 : Stand p l e room_1 s m #[(.int p0), (.int p1), (.int p2), (.int p3), (.int p4), (.int p5)] below meth c T16 _ 2 12 := X16
  have V_b16 : Arv Z h16 b16 k16 .int (6 : Int32) [(.int (0 : Int32)), (.int (0 : Int32)), (.int (0 : Int32)), (.int (0 : Int32)), (.int (0 : Int32)), (.int (0 : Int32))] (.int (0 : Int32)) := (Arv.new A16 (by decide)).pad (pad_rep [] (.int (0 : Int32)) 6)
  refine own_go st16 ?_
  show own_Fin p.tables e below (T16.setTop (mkF m 60 #[.val (.int p0), .val (.int p1), .val (.int p2), .val (.int p3), .val (.int p4), .val (.int p5), .val (.ref b1), .unset, .unset, .unset, .unset, .unset, .unset, .unset] [(.ref b16)])) _
  refine own_go (B := T16.setTop (mkF m 68 #[.val (.int p0), .val (.int p1), .val (.int p2), .val (.int p3), .val (.int p4), .val (.int p5), .val (.ref b1), .val (.ref b16), .unset, .unset, .unset, .unset, .unset, .unset] [(.int (0 : Int32)), (.ref b1), (.int (0 : Int32)), (.ref b16)])) (fun t k => ?_) ?_
  · show Steps p.tables e below (T16.setTop (mkF m 60 #[.val (.int p0), .val (.int p1), .val (.int p2), .val (.int p3), .val (.int p4), .val (.int p5), .val (.ref b1), .unset, .unset, .unset, .unset, .unset, .unset, .unset] [(.ref b16)])) t
    refine XS.astore X16.here hx rfl (hb hby at_60) rfl rfl (l' := #[.val (.int p0), .val (.int p1), .val (.int p2), .val (.int p3), .val (.int p4), .val (.int p5), .val (.ref b1), .val (.ref b16), .unset, .unset, .unset, .unset, .unset, .unset]) rfl ?_
    refine XS.aload X16.here hx rfl (hb hby at_62) rfl rfl ?_
    refine XS.iconst X16.here hx rfl (hb hby at_64) ?_
    refine XS.aload X16.here hx rfl (hb hby at_65) rfl rfl ?_
    show Steps p.tables e below (T16.setTop (mkF m 67 #[.val (.int p0), .val (.int p1), .val (.int p2), .val (.int p3), .val (.int p4), .val (.int p5), .val (.ref b1), .val (.ref b16), .unset, .unset, .unset, .unset, .unset, .unset] [(.ref b1), (.int (0 : Int32)), (.ref b16)])) t
    refine XS.iconst X16.here hx rfl (hb hby at_67) ?_
    exact k
  have f23 := (V15.ext E16)
  obtain ⟨cl22, Ar22, -, S22, M22, Ha22, G22⟩ := id f23
  have hin22 : ¬ ((0 : Int32) < 0 ∨ cl22.slots.size ≤ ((0 : Int32)).toNatClampNeg) := inb_of S22 ⟨by decide, by decide⟩
  have hat22 : cl22.slots[((0 : Int32)).toNatClampNeg]? = some (.int (own_I d0)) := Has.at Ha22 hin22 rfl
  refine own_go (B := T16.setTop (mkF m 69 #[.val (.int p0), .val (.int p1), .val (.int p2), .val (.int p3), .val (.int p4), .val (.int p5), .val (.ref b1), .val (.ref b16), .unset, .unset, .unset, .unset, .unset, .unset] [(.int (own_I d0)), (.int (0 : Int32)), (.ref b16)])) (fun t k => ?_) ?_
  · exact X16.iaload hx (j := (0 : Int32)) (v := (.int (own_I d0))) (by first | exact Ar22.1 | (rw [e16]; exact Ar22.1)) (State.isArrayOf_alike hZ.alike Ar22.2.1) Ar22.2.2 hin22 hat22 (g := (mkF m 68 #[.val (.int p0), .val (.int p1), .val (.int p2), .val (.int p3), .val (.int p4), .val (.int p5), .val (.ref b1), .val (.ref b16), .unset, .unset, .unset, .unset, .unset, .unset] [(.int (0 : Int32)), (.ref b1), (.int (0 : Int32)), (.ref b16)])) rfl rfl (hb hby at_68) _ k
  obtain ⟨cl24, Ar24, q24, S24, M24, Ha24, G24⟩ := id V_b16
  have hin24 : ¬ ((0 : Int32) < 0 ∨ cl24.slots.size ≤ ((0 : Int32)).toNatClampNeg) := inb_of S24 ⟨by decide, by decide⟩
  obtain ⟨T24, h24, X24, e24, W24, st24⟩ := stI X16 hx hZ e16 Ar24 (j := (0 : Int32)) hin24 (g := (mkF m 69 #[.val (.int p0), .val (.int p1), .val (.int p2), .val (.int p3), .val (.int p4), .val (.int p5), .val (.ref b1), .val (.ref b16), .unset, .unset, .unset, .unset, .unset, .unset] [(.int (own_I d0)), (.int (0 : Int32)), (.ref b16)])) rfl rfl (hb hby at_69)
  have N24 := Fr.snoc X24 N15 g_b16
  have K24 : Keep h0 h24 [] := K16.wr W24 (Or.inr sz_b16)
  have V24 : Arv Z h24 b16 k16 .int (6 : Int32) [(.int (own_I d0)), (.int (0 : Int32)), (.int (0 : Int32)), (.int (0 : Int32)), (.int (0 : Int32)), (.int (0 : Int32))] (.int (0 : Int32)) := Arv.set Ar24 q24 S24 M24 Ha24 G24 rfl W24 0 rfl (Nat.le_of_ble_eq_true rfl)
  refine own_go st24 ?_
  show own_Fin p.tables e below (T24.setTop (mkF m 70 #[.val (.int p0), .val (.int p1), .val (.int p2), .val (.int p3), .val (.int p4), .val (.int p5), .val (.ref b1), .val (.ref b16), .unset, .unset, .unset, .unset, .unset, .unset] [])) _
  refine own_go (B := T24.setTop (mkF m 76 #[.val (.int p0), .val (.int p1), .val (.int p2), .val (.int p3), .val (.int p4), .val (.int p5), .val (.ref b1), .val (.ref b16), .unset, .unset, .unset, .unset, .unset, .unset] [(.int (1 : Int32)), (.ref b1), (.int (1 : Int32)), (.ref b16)])) (fun t k => ?_) ?_
  · show Steps p.tables e below (T24.setTop (mkF m 70 #[.val (.int p0), .val (.int p1), .val (.int p2), .val (.int p3), .val (.int p4), .val (.int p5), .val (.ref b1), .val (.ref b16), .unset, .unset, .unset, .unset, .unset, .unset] [])) t
    refine XS.aload X24.here hx rfl (hb hby at_70) rfl rfl ?_
    refine XS.iconst X24.here hx rfl (hb hby at_72) ?_
    refine XS.aload X24.here hx rfl (hb hby at_73) rfl rfl ?_
    refine XS.iconst X24.here hx rfl (hb hby at_75) ?_
    exact k
  have f26 := (f23.other W24 ne21)
  obtain ⟨cl25, Ar25, -, S25, M25, Ha25, G25⟩ := id f26
  have hin25 : ¬ ((1 : Int32) < 0 ∨ cl25.slots.size ≤ ((1 : Int32)).toNatClampNeg) := inb_of S25 ⟨by decide, by decide⟩
  have hat25 : cl25.slots[((1 : Int32)).toNatClampNeg]? = some (.int (own_I d1)) := Has.at Ha25 hin25 rfl
  refine own_go (B := T24.setTop (mkF m 77 #[.val (.int p0), .val (.int p1), .val (.int p2), .val (.int p3), .val (.int p4), .val (.int p5), .val (.ref b1), .val (.ref b16), .unset, .unset, .unset, .unset, .unset, .unset] [(.int (own_I d1)), (.int (1 : Int32)), (.ref b16)])) (fun t k => ?_) ?_
  · exact X24.iaload hx (j := (1 : Int32)) (v := (.int (own_I d1))) (by first | exact Ar25.1 | (rw [e24]; exact Ar25.1)) (State.isArrayOf_alike hZ.alike Ar25.2.1) Ar25.2.2 hin25 hat25 (g := (mkF m 76 #[.val (.int p0), .val (.int p1), .val (.int p2), .val (.int p3), .val (.int p4), .val (.int p5), .val (.ref b1), .val (.ref b16), .unset, .unset, .unset, .unset, .unset, .unset] [(.int (1 : Int32)), (.ref b1), (.int (1 : Int32)), (.ref b16)])) rfl rfl (hb hby at_76) _ k
  obtain ⟨cl27, Ar27, q27, S27, M27, Ha27, G27⟩ := id V24
  have hin27 : ¬ ((1 : Int32) < 0 ∨ cl27.slots.size ≤ ((1 : Int32)).toNatClampNeg) := inb_of S27 ⟨by decide, by decide⟩
  obtain ⟨T27, h27, X27, e27, W27, st27⟩ := stI X24 hx hZ e24 Ar27 (j := (1 : Int32)) hin27 (g := (mkF m 77 #[.val (.int p0), .val (.int p1), .val (.int p2), .val (.int p3), .val (.int p4), .val (.int p5), .val (.ref b1), .val (.ref b16), .unset, .unset, .unset, .unset, .unset, .unset] [(.int (own_I d1)), (.int (1 : Int32)), (.ref b16)])) rfl rfl (hb hby at_77)
  have N27 := Fr.snoc X27 N24 g_b16
  have K27 : Keep h0 h27 [] := K24.wr W27 (Or.inr sz_b16)
  have V27 : Arv Z h27 b16 k16 .int (6 : Int32) [(.int (own_I d0)), (.int (own_I d1)), (.int (0 : Int32)), (.int (0 : Int32)), (.int (0 : Int32)), (.int (0 : Int32))] (.int (0 : Int32)) := Arv.set Ar27 q27 S27 M27 Ha27 G27 rfl W27 1 rfl (Nat.le_of_ble_eq_true rfl)
  refine own_go st27 ?_
  show own_Fin p.tables e below (T27.setTop (mkF m 78 #[.val (.int p0), .val (.int p1), .val (.int p2), .val (.int p3), .val (.int p4), .val (.int p5), .val (.ref b1), .val (.ref b16), .unset, .unset, .unset, .unset, .unset, .unset] [])) _
  refine own_go (B := T27.setTop (mkF m 84 #[.val (.int p0), .val (.int p1), .val (.int p2), .val (.int p3), .val (.int p4), .val (.int p5), .val (.ref b1), .val (.ref b16), .unset, .unset, .unset, .unset, .unset, .unset] [(.int (2 : Int32)), (.ref b1), (.int (2 : Int32)), (.ref b16)])) (fun t k => ?_) ?_
  · show Steps p.tables e below (T27.setTop (mkF m 78 #[.val (.int p0), .val (.int p1), .val (.int p2), .val (.int p3), .val (.int p4), .val (.int p5), .val (.ref b1), .val (.ref b16), .unset, .unset, .unset, .unset, .unset, .unset] [])) t
    refine XS.aload X27.here hx rfl (hb hby at_78) rfl rfl ?_
    refine XS.iconst X27.here hx rfl (hb hby at_80) ?_
    refine XS.aload X27.here hx rfl (hb hby at_81) rfl rfl ?_
    refine XS.iconst X27.here hx rfl (hb hby at_83) ?_
    exact k
  have f29 := (f26.other W27 ne21)
  obtain ⟨cl28, Ar28, -, S28, M28, Ha28, G28⟩ := id f29
  have hin28 : ¬ ((2 : Int32) < 0 ∨ cl28.slots.size ≤ ((2 : Int32)).toNatClampNeg) := inb_of S28 ⟨by decide, by decide⟩
  have hat28 : cl28.slots[((2 : Int32)).toNatClampNeg]? = some (.int (own_I d2)) := Has.at Ha28 hin28 rfl
  refine own_go (B := T27.setTop (mkF m 85 #[.val (.int p0), .val (.int p1), .val (.int p2), .val (.int p3), .val (.int p4), .val (.int p5), .val (.ref b1), .val (.ref b16), .unset, .unset, .unset, .unset, .unset, .unset] [(.int (own_I d2)), (.int (2 : Int32)), (.ref b16)])) (fun t k => ?_) ?_
  · exact X27.iaload hx (j := (2 : Int32)) (v := (.int (own_I d2))) (by first | exact Ar28.1 | (rw [e27]; exact Ar28.1)) (State.isArrayOf_alike hZ.alike Ar28.2.1) Ar28.2.2 hin28 hat28 (g := (mkF m 84 #[.val (.int p0), .val (.int p1), .val (.int p2), .val (.int p3), .val (.int p4), .val (.int p5), .val (.ref b1), .val (.ref b16), .unset, .unset, .unset, .unset, .unset, .unset] [(.int (2 : Int32)), (.ref b1), (.int (2 : Int32)), (.ref b16)])) rfl rfl (hb hby at_84) _ k
  obtain ⟨cl30, Ar30, q30, S30, M30, Ha30, G30⟩ := id V27
  have hin30 : ¬ ((2 : Int32) < 0 ∨ cl30.slots.size ≤ ((2 : Int32)).toNatClampNeg) := inb_of S30 ⟨by decide, by decide⟩
  obtain ⟨T30, h30, X30, e30, W30, st30⟩ := stI X27 hx hZ e27 Ar30 (j := (2 : Int32)) hin30 (g := (mkF m 85 #[.val (.int p0), .val (.int p1), .val (.int p2), .val (.int p3), .val (.int p4), .val (.int p5), .val (.ref b1), .val (.ref b16), .unset, .unset, .unset, .unset, .unset, .unset] [(.int (own_I d2)), (.int (2 : Int32)), (.ref b16)])) rfl rfl (hb hby at_85)
  have N30 := Fr.snoc X30 N27 g_b16
  have K30 : Keep h0 h30 [] := K27.wr W30 (Or.inr sz_b16)
  have V30 : Arv Z h30 b16 k16 .int (6 : Int32) [(.int (own_I d0)), (.int (own_I d1)), (.int (own_I d2)), (.int (0 : Int32)), (.int (0 : Int32)), (.int (0 : Int32))] (.int (0 : Int32)) := Arv.set Ar30 q30 S30 M30 Ha30 G30 rfl W30 2 rfl (Nat.le_of_ble_eq_true rfl)
  refine own_go st30 ?_
  show own_Fin p.tables e below (T30.setTop (mkF m 86 #[.val (.int p0), .val (.int p1), .val (.int p2), .val (.int p3), .val (.int p4), .val (.int p5), .val (.ref b1), .val (.ref b16), .unset, .unset, .unset, .unset, .unset, .unset] [])) _
  refine own_go (B := T30.setTop (mkF m 92 #[.val (.int p0), .val (.int p1), .val (.int p2), .val (.int p3), .val (.int p4), .val (.int p5), .val (.ref b1), .val (.ref b16), .unset, .unset, .unset, .unset, .unset, .unset] [(.int (3 : Int32)), (.ref b1), (.int (3 : Int32)), (.ref b16)])) (fun t k => ?_) ?_
  · show Steps p.tables e below (T30.setTop (mkF m 86 #[.val (.int p0), .val (.int p1), .val (.int p2), .val (.int p3), .val (.int p4), .val (.int p5), .val (.ref b1), .val (.ref b16), .unset, .unset, .unset, .unset, .unset, .unset] [])) t
    refine XS.aload X30.here hx rfl (hb hby at_86) rfl rfl ?_
    refine XS.iconst X30.here hx rfl (hb hby at_88) ?_
    refine XS.aload X30.here hx rfl (hb hby at_89) rfl rfl ?_
    refine XS.iconst X30.here hx rfl (hb hby at_91) ?_
    exact k
  have f32 := (f29.other W30 ne21)
  obtain ⟨cl31, Ar31, -, S31, M31, Ha31, G31⟩ := id f32
  have hin31 : ¬ ((3 : Int32) < 0 ∨ cl31.slots.size ≤ ((3 : Int32)).toNatClampNeg) := inb_of S31 ⟨by decide, by decide⟩
  have hat31 : cl31.slots[((3 : Int32)).toNatClampNeg]? = some (.int (own_I d3)) := Has.at Ha31 hin31 rfl
  refine own_go (B := T30.setTop (mkF m 93 #[.val (.int p0), .val (.int p1), .val (.int p2), .val (.int p3), .val (.int p4), .val (.int p5), .val (.ref b1), .val (.ref b16), .unset, .unset, .unset, .unset, .unset, .unset] [(.int (own_I d3)), (.int (3 : Int32)), (.ref b16)])) (fun t k => ?_) ?_
  · exact X30.iaload hx (j := (3 : Int32)) (v := (.int (own_I d3))) (by first | exact Ar31.1 | (rw [e30]; exact Ar31.1)) (State.isArrayOf_alike hZ.alike Ar31.2.1) Ar31.2.2 hin31 hat31 (g := (mkF m 92 #[.val (.int p0), .val (.int p1), .val (.int p2), .val (.int p3), .val (.int p4), .val (.int p5), .val (.ref b1), .val (.ref b16), .unset, .unset, .unset, .unset, .unset, .unset] [(.int (3 : Int32)), (.ref b1), (.int (3 : Int32)), (.ref b16)])) rfl rfl (hb hby at_92) _ k
  obtain ⟨cl33, Ar33, q33, S33, M33, Ha33, G33⟩ := id V30
  have hin33 : ¬ ((3 : Int32) < 0 ∨ cl33.slots.size ≤ ((3 : Int32)).toNatClampNeg) := inb_of S33 ⟨by decide, by decide⟩
  obtain ⟨T33, h33, X33, e33, W33, st33⟩ := stI X30 hx hZ e30 Ar33 (j := (3 : Int32)) hin33 (g := (mkF m 93 #[.val (.int p0), .val (.int p1), .val (.int p2), .val (.int p3), .val (.int p4), .val (.int p5), .val (.ref b1), .val (.ref b16), .unset, .unset, .unset, .unset, .unset, .unset] [(.int (own_I d3)), (.int (3 : Int32)), (.ref b16)])) rfl rfl (hb hby at_93)
  have N33 := Fr.snoc X33 N30 g_b16
  have K33 : Keep h0 h33 [] := K30.wr W33 (Or.inr sz_b16)
  have V33 : Arv Z h33 b16 k16 .int (6 : Int32) [(.int (own_I d0)), (.int (own_I d1)), (.int (own_I d2)), (.int (own_I d3)), (.int (0 : Int32)), (.int (0 : Int32))] (.int (0 : Int32)) := Arv.set Ar33 q33 S33 M33 Ha33 G33 rfl W33 3 rfl (Nat.le_of_ble_eq_true rfl)
  refine own_go st33 ?_
  show own_Fin p.tables e below (T33.setTop (mkF m 94 #[.val (.int p0), .val (.int p1), .val (.int p2), .val (.int p3), .val (.int p4), .val (.int p5), .val (.ref b1), .val (.ref b16), .unset, .unset, .unset, .unset, .unset, .unset] [])) _
  refine own_go (B := T33.setTop (mkF m 100 #[.val (.int p0), .val (.int p1), .val (.int p2), .val (.int p3), .val (.int p4), .val (.int p5), .val (.ref b1), .val (.ref b16), .unset, .unset, .unset, .unset, .unset, .unset] [(.int (4 : Int32)), (.ref b1), (.int (4 : Int32)), (.ref b16)])) (fun t k => ?_) ?_
  · show Steps p.tables e below (T33.setTop (mkF m 94 #[.val (.int p0), .val (.int p1), .val (.int p2), .val (.int p3), .val (.int p4), .val (.int p5), .val (.ref b1), .val (.ref b16), .unset, .unset, .unset, .unset, .unset, .unset] [])) t
    refine XS.aload X33.here hx rfl (hb hby at_94) rfl rfl ?_
    refine XS.iconst X33.here hx rfl (hb hby at_96) ?_
    refine XS.aload X33.here hx rfl (hb hby at_97) rfl rfl ?_
    refine XS.iconst X33.here hx rfl (hb hby at_99) ?_
    exact k
  have f35 := (f32.other W33 ne21)
  obtain ⟨cl34, Ar34, -, S34, M34, Ha34, G34⟩ := id f35
  have hin34 : ¬ ((4 : Int32) < 0 ∨ cl34.slots.size ≤ ((4 : Int32)).toNatClampNeg) := inb_of S34 ⟨by decide, by decide⟩
  have hat34 : cl34.slots[((4 : Int32)).toNatClampNeg]? = some (.int (own_I d4)) := Has.at Ha34 hin34 rfl
  refine own_go (B := T33.setTop (mkF m 101 #[.val (.int p0), .val (.int p1), .val (.int p2), .val (.int p3), .val (.int p4), .val (.int p5), .val (.ref b1), .val (.ref b16), .unset, .unset, .unset, .unset, .unset, .unset] [(.int (own_I d4)), (.int (4 : Int32)), (.ref b16)])) (fun t k => ?_) ?_
  · exact X33.iaload hx (j := (4 : Int32)) (v := (.int (own_I d4))) (by first | exact Ar34.1 | (rw [e33]; exact Ar34.1)) (State.isArrayOf_alike hZ.alike Ar34.2.1) Ar34.2.2 hin34 hat34 (g := (mkF m 100 #[.val (.int p0), .val (.int p1), .val (.int p2), .val (.int p3), .val (.int p4), .val (.int p5), .val (.ref b1), .val (.ref b16), .unset, .unset, .unset, .unset, .unset, .unset] [(.int (4 : Int32)), (.ref b1), (.int (4 : Int32)), (.ref b16)])) rfl rfl (hb hby at_100) _ k
  obtain ⟨cl36, Ar36, q36, S36, M36, Ha36, G36⟩ := id V33
  have hin36 : ¬ ((4 : Int32) < 0 ∨ cl36.slots.size ≤ ((4 : Int32)).toNatClampNeg) := inb_of S36 ⟨by decide, by decide⟩
  obtain ⟨T36, h36, X36, e36, W36, st36⟩ := stI X33 hx hZ e33 Ar36 (j := (4 : Int32)) hin36 (g := (mkF m 101 #[.val (.int p0), .val (.int p1), .val (.int p2), .val (.int p3), .val (.int p4), .val (.int p5), .val (.ref b1), .val (.ref b16), .unset, .unset, .unset, .unset, .unset, .unset] [(.int (own_I d4)), (.int (4 : Int32)), (.ref b16)])) rfl rfl (hb hby at_101)
  have N36 := Fr.snoc X36 N33 g_b16
  have K36 : Keep h0 h36 [] := K33.wr W36 (Or.inr sz_b16)
  have V36 : Arv Z h36 b16 k16 .int (6 : Int32) [(.int (own_I d0)), (.int (own_I d1)), (.int (own_I d2)), (.int (own_I d3)), (.int (own_I d4)), (.int (0 : Int32))] (.int (0 : Int32)) := Arv.set Ar36 q36 S36 M36 Ha36 G36 rfl W36 4 rfl (Nat.le_of_ble_eq_true rfl)
  refine own_go st36 ?_
  show own_Fin p.tables e below (T36.setTop (mkF m 102 #[.val (.int p0), .val (.int p1), .val (.int p2), .val (.int p3), .val (.int p4), .val (.int p5), .val (.ref b1), .val (.ref b16), .unset, .unset, .unset, .unset, .unset, .unset] [])) _
  refine own_go (B := T36.setTop (mkF m 108 #[.val (.int p0), .val (.int p1), .val (.int p2), .val (.int p3), .val (.int p4), .val (.int p5), .val (.ref b1), .val (.ref b16), .unset, .unset, .unset, .unset, .unset, .unset] [(.int (5 : Int32)), (.ref b1), (.int (5 : Int32)), (.ref b16)])) (fun t k => ?_) ?_
  · show Steps p.tables e below (T36.setTop (mkF m 102 #[.val (.int p0), .val (.int p1), .val (.int p2), .val (.int p3), .val (.int p4), .val (.int p5), .val (.ref b1), .val (.ref b16), .unset, .unset, .unset, .unset, .unset, .unset] [])) t
    refine XS.aload X36.here hx rfl (hb hby at_102) rfl rfl ?_
    refine XS.iconst X36.here hx rfl (hb hby at_104) ?_
    refine XS.aload X36.here hx rfl (hb hby at_105) rfl rfl ?_
    refine XS.iconst X36.here hx rfl (hb hby at_107) ?_
    exact k
  have f38 := (f35.other W36 ne21)
  obtain ⟨cl37, Ar37, -, S37, M37, Ha37, G37⟩ := id f38
  have hin37 : ¬ ((5 : Int32) < 0 ∨ cl37.slots.size ≤ ((5 : Int32)).toNatClampNeg) := inb_of S37 ⟨by decide, by decide⟩
  have hat37 : cl37.slots[((5 : Int32)).toNatClampNeg]? = some (.int (own_I d5)) := Has.at Ha37 hin37 rfl
  refine own_go (B := T36.setTop (mkF m 109 #[.val (.int p0), .val (.int p1), .val (.int p2), .val (.int p3), .val (.int p4), .val (.int p5), .val (.ref b1), .val (.ref b16), .unset, .unset, .unset, .unset, .unset, .unset] [(.int (own_I d5)), (.int (5 : Int32)), (.ref b16)])) (fun t k => ?_) ?_
  · exact X36.iaload hx (j := (5 : Int32)) (v := (.int (own_I d5))) (by first | exact Ar37.1 | (rw [e36]; exact Ar37.1)) (State.isArrayOf_alike hZ.alike Ar37.2.1) Ar37.2.2 hin37 hat37 (g := (mkF m 108 #[.val (.int p0), .val (.int p1), .val (.int p2), .val (.int p3), .val (.int p4), .val (.int p5), .val (.ref b1), .val (.ref b16), .unset, .unset, .unset, .unset, .unset, .unset] [(.int (5 : Int32)), (.ref b1), (.int (5 : Int32)), (.ref b16)])) rfl rfl (hb hby at_108) _ k
  obtain ⟨cl39, Ar39, q39, S39, M39, Ha39, G39⟩ := id V36
  have hin39 : ¬ ((5 : Int32) < 0 ∨ cl39.slots.size ≤ ((5 : Int32)).toNatClampNeg) := inb_of S39 ⟨by decide, by decide⟩
  obtain ⟨T39, h39, X39, e39, W39, st39⟩ := stI X36 hx hZ e36 Ar39 (j := (5 : Int32)) hin39 (g := (mkF m 109 #[.val (.int p0), .val (.int p1), .val (.int p2), .val (.int p3), .val (.int p4), .val (.int p5), .val (.ref b1), .val (.ref b16), .unset, .unset, .unset, .unset, .unset, .unset] [(.int (own_I d5)), (.int (5 : Int32)), (.ref b16)])) rfl rfl (hb hby at_109)
  have N39 := Fr.snoc X39 N36 g_b16
  have K39 : Keep h0 h39 [] := K36.wr W39 (Or.inr sz_b16)
  have V39 : Arv Z h39 b16 k16 .int (6 : Int32) [(.int (own_I d0)), (.int (own_I d1)), (.int (own_I d2)), (.int (own_I d3)), (.int (own_I d4)), (.int (own_I d5))] (.int (0 : Int32)) := Arv.set Ar39 q39 S39 M39 Ha39 G39 rfl W39 5 rfl (Nat.le_of_ble_eq_true rfl)
  refine own_go st39 ?_
  show own_Fin p.tables e below (T39.setTop (mkF m 110 #[.val (.int p0), .val (.int p1), .val (.int p2), .val (.int p3), .val (.int p4), .val (.int p5), .val (.ref b1), .val (.ref b16), .unset, .unset, .unset, .unset, .unset, .unset] [])) _
  obtain ⟨T40, h40, X40, e40, E40, A40, D40, -, st40⟩ := newO X39 hx hZ hown (hw _ (List.mem_of_getElem? (i := 6) rfl)) (hw _ (List.mem_of_getElem? (i := 7) rfl)) (hw _ (List.mem_of_getElem? (i := 8) rfl)) e39 (g := (mkF m 110 #[.val (.int p0), .val (.int p1), .val (.int p2), .val (.int p3), .val (.int p4), .val (.int p5), .val (.ref b1), .val (.ref b16), .unset, .unset, .unset, .unset, .unset, .unset] [])) rfl (hb hby at_110) (by decide) (by decide)
  obtain ⟨b40, g40⟩ : ∃ z, z = h39.size := ⟨_, rfl⟩
  rw [← g40] at A40 D40 st40
  have g_b40 : n0 ≤ b40 := by rw [g40]; exact (Nat.le_trans Z0 K39.1)
  have sz_b40 : h0.size ≤ b40 := by rw [g40]; exact K39.1
  have f41 := (((((((f17.ext E16).other W24 ne18).other W27 ne18).other W30 ne18).other W33 ne18).other W36 ne18).other W39 ne18)
  have ne42 : s1 ≠ b40 := Nat.ne_of_lt (by rw [g40]; exact f41.lt)
  have f43 := (((((((f19.ext E16).other W24 ne20).other W27 ne20).other W30 ne20).other W33 ne20).other W36 ne20).other W39 ne20)
  have ne44 : s3 ≠ b40 := Nat.ne_of_lt (by rw [g40]; exact f43.lt)
  have f45 := (f38.other W39 ne21)
  have ne46 : b1 ≠ b40 := Nat.ne_of_lt (by rw [g40]; exact f45.lt)
  have ne47 : b16 ≠ b40 := Nat.ne_of_lt (by rw [g40]; exact V39.lt)
  have K40 : Keep h0 h40 [] := K39.ext E40
  have X40 : Stand p l e room_1 s m #[(.int p0), (.int p1), (.int p2), (.int p3), (.int p4), (.int p5)] below meth c T40 _ 3 15 := X40
  have F_left_b40 : Fld Z h40 b40 "com/example/rollhaus/rollhaus/zehntausend/Turn" "left" "I" (.int (0 : Int32)) := D40 (Or.inl (hw _ (List.mem_of_getElem? (i := 16) rfl))) (ty := .int) (by decide)
  have F_thrown_b40 : Fld Z h40 b40 "com/example/rollhaus/rollhaus/zehntausend/Turn" "thrown" "[I" .null := D40 (Or.inl (hw _ (List.mem_of_getElem? (i := 23) rfl))) (ty := (.array .int)) (by decide)
  have F_points_b40 : Fld Z h40 b40 "com/example/rollhaus/rollhaus/zehntausend/Turn" "points" "I" (.int (0 : Int32)) := D40 (Or.inl (hw _ (List.mem_of_getElem? (i := 112) rfl))) (ty := .int) (by decide)
  refine own_go st40 ?_
  show own_Fin p.tables e below (T40.setTop (mkF m 113 #[.val (.int p0), .val (.int p1), .val (.int p2), .val (.int p3), .val (.int p4), .val (.int p5), .val (.ref b1), .val (.ref b16), .unset, .unset, .unset, .unset, .unset, .unset] [(.ref b40)])) _
  refine own_go (B := T40.setTop (mkF m 114 #[.val (.int p0), .val (.int p1), .val (.int p2), .val (.int p3), .val (.int p4), .val (.int p5), .val (.ref b1), .val (.ref b16), .unset, .unset, .unset, .unset, .unset, .unset] [(.ref b40), (.ref b40)])) (fun t k => ?_) ?_
  · show Steps p.tables e below (T40.setTop (mkF m 113 #[.val (.int p0), .val (.int p1), .val (.int p2), .val (.int p3), .val (.int p4), .val (.int p5), .val (.ref b1), .val (.ref b16), .unset, .unset, .unset, .unset, .unset, .unset] [(.ref b40)])) t
    refine XS.dup X40.here hx rfl (hb hby at_113) rfl rfl ?_
    exact k
  obtain ⟨_, _, ⟨T48, L48, k48, n48⟩, -, X48, ⟨Lc48, hQ48, l48, y48, z48⟩, st48⟩ := X40.specialBack hx (y := (⟨"com/example/rollhaus/rollhaus/zehntausend/Turn", "<init>", "()V"⟩ : MethodName)) rfl hown (mvT hZ (hw _ (List.mem_of_getElem? (i := 9) rfl))) (mvT hZ (hw _ (List.mem_of_getElem? (i := 10) rfl))) (mvT hZ (hw _ (List.mem_of_getElem? (i := 11) rfl))) (by decide) (backOf (W := 1) (rmti l Z a0 hw [] b40  h40 n0 (Nat.le_trans Z0 K40.1) A40 g_b40 F_left_b40 F_thrown_b40 F_points_b40) hZ (hw _ (List.mem_of_getElem? (i := 11) rfl)) (hw _ (List.mem_of_getElem? (i := 8) rfl)) (by decide) (by decide)) (g := (mkF m 114 #[.val (.int p0), .val (.int p1), .val (.int p2), .val (.int p3), .val (.int p4), .val (.int p5), .val (.ref b1), .val (.ref b16), .unset, .unset, .unset, .unset, .unset, .unset] [(.ref b40), (.ref b40)])) rfl (by rw [hml]; rfl) (Steps.refl _) (a := b40) (argsL := []) (rest := [(.ref b40)]) (lenOf pd0_1 rfl) rfl (by show 2 * 0 + _ ≤ _; exact Nat.le_of_eq rfl) (hb hby at_114) (fun _ _ => ⟨rfl, e40, (by decide : 3 + 0 ≤ _), (by decide : 15 + 0 ≤ _)⟩)
  dsimp only [Pt.U, Pt.locs, Pt.cells, Pt.slots] at X48 l48 y48 z48 st48 hQ48
  subst y48 z48
  have X48 : Stand p l e room_1 s m #[(.int p0), (.int p1), (.int p2), (.int p3), (.int p4), (.int p5)] below meth c T48 _ 3 15 := X48
  obtain ⟨rfl, N48q, Kq48, f48_0, f48_1, f48_2, f48_3⟩ := hQ48
  have N48 : Fr n0 L48 := by rw [l48]; exact Fr.app N39 N48q
  have K48 : Keep h0 T48.heap [] := K40.trans Kq48 (allS (Or.inr sz_b40) all0)
  refine own_go (fun _ k => st48.trans k) ?_
  show own_Fin p.tables e below (T48.setTop (mkF m 117 #[.val (.int p0), .val (.int p1), .val (.int p2), .val (.int p3), .val (.int p4), .val (.int p5), .val (.ref b1), .val (.ref b16), .unset, .unset, .unset, .unset, .unset, .unset] [(.ref b40)])) _
  refine own_go (B := T48.setTop (mkF m 121 #[.val (.int p0), .val (.int p1), .val (.int p2), .val (.int p3), .val (.int p4), .val (.int p5), .val (.ref b1), .val (.ref b16), .val (.ref b40), .unset, .unset, .unset, .unset, .unset] [(.ref b40)])) (fun t k => ?_) ?_
  · show Steps p.tables e below (T48.setTop (mkF m 117 #[.val (.int p0), .val (.int p1), .val (.int p2), .val (.int p3), .val (.int p4), .val (.int p5), .val (.ref b1), .val (.ref b16), .unset, .unset, .unset, .unset, .unset, .unset] [(.ref b40)])) t
    refine XS.astore X48.here hx rfl (hb hby at_117) rfl rfl (l' := #[.val (.int p0), .val (.int p1), .val (.int p2), .val (.int p3), .val (.int p4), .val (.int p5), .val (.ref b1), .val (.ref b16), .val (.ref b40), .unset, .unset, .unset, .unset, .unset]) rfl ?_
    refine XS.aload X48.here hx rfl (hb hby at_119) rfl rfl ?_
    exact k
  obtain ⟨cq49, kq49, q49a, q49b, q49c⟩ := isOf hZ rfl f48_0
  obtain ⟨_, _, ⟨T49, L49, k49, n49⟩, -, X49, ⟨Lc49, hQ49, l49, y49, z49⟩, st49⟩ := X48.virtualBack hx (y := (⟨"com/example/rollhaus/rollhaus/zehntausend/Turn", "thrown", "()[I"⟩ : MethodName)) (z := (⟨"com/example/rollhaus/rollhaus/zehntausend/Turn", "thrown", "()[I"⟩ : MethodName)) hown (mvT hZ (hw _ (List.mem_of_getElem? (i := 17) rfl))) (mvT hZ (hw _ (List.mem_of_getElem? (i := 18) rfl))) (notFace_of_selects (args := #[]) (mvT hZ (hw _ (List.mem_of_getElem? (i := 20) rfl)))) (mvT hZ (hw _ (List.mem_of_getElem? (i := 20) rfl))) (mvT hZ (hw _ (List.mem_of_getElem? (i := 19) rfl))) (by decide) (backOf (W := 0) (rmtn l Z a0 hw [] b40 T48.heap n0 (Nat.le_trans Z0 K48.1) f48_3) hZ (hw _ (List.mem_of_getElem? (i := 21) rfl)) (hw _ (List.mem_of_getElem? (i := 8) rfl)) (by decide) (by decide)) q49a q49c (g := (mkF m 121 #[.val (.int p0), .val (.int p1), .val (.int p2), .val (.int p3), .val (.int p4), .val (.int p5), .val (.ref b1), .val (.ref b16), .val (.ref b40), .unset, .unset, .unset, .unset, .unset] [(.ref b40)])) rfl (by rw [hml]; rfl) (Steps.refl _) (argsL := []) (rest := []) (lenOf pd0_2 rfl) rfl (by show 2 * 0 + _ ≤ _; exact Nat.le_of_eq rfl) (hb hby at_121) (fun _ _ => ⟨rfl, rfl, (by decide : 3 + 1 ≤ _), (by decide : 15 + 0 ≤ _)⟩)
  dsimp only [Pt.U, Pt.locs, Pt.cells, Pt.slots] at X49 l49 y49 z49 st49 hQ49
  subst y49 z49
  have X49 : Stand p l e room_1 s m #[(.int p0), (.int p1), (.int p2), (.int p3), (.int p4), (.int p5)] below meth c T49 _ 4 15 := X49
  have f50 := ((f41.ext E40).keep Kq48 (ninS ne42 nin0))
  have f51 := ((f43.ext E40).keep Kq48 (ninS ne44 nin0))
  have f52 := ((f45.ext E40).keep Kq48 (ninS ne46 nin0))
  have f53 := ((V39.ext E40).keep Kq48 (ninS ne47 nin0))
  obtain ⟨x49, kx49, rfl, N49q, Kq49, lt_x49, EA49, V49⟩ := hQ49
  have N49 : Fr n0 L49 := by rw [l49]; exact Fr.app N48 N49q
  have K49 : Keep h0 T49.heap [] := K48.trans Kq49 all0
  have sz_x49 : h0.size ≤ x49 := Nat.le_trans K48.1 lt_x49
  have g_x49 : n0 ≤ x49 := Nat.le_trans Z0 sz_x49
  have ne54 : s1 ≠ x49 := Nat.ne_of_lt (Nat.lt_of_lt_of_le f50.lt lt_x49)
  have ne55 : s3 ≠ x49 := Nat.ne_of_lt (Nat.lt_of_lt_of_le f51.lt lt_x49)
  have ne56 : b1 ≠ x49 := Nat.ne_of_lt (Nat.lt_of_lt_of_le f52.lt lt_x49)
  have ne57 : b16 ≠ x49 := Nat.ne_of_lt (Nat.lt_of_lt_of_le f53.lt lt_x49)
  have ne58 : b40 ≠ x49 := Nat.ne_of_lt (Nat.lt_of_lt_of_le f48_0.lt lt_x49)
  have VL49 : Arv Z T49.heap x49 kx49 .int (0 : Int32) [] (.int (0 : Int32)) := V49
  refine own_go (fun _ k => st49.trans k) ?_
  show own_Fin p.tables e below (T49.setTop (mkF m 124 #[.val (.int p0), .val (.int p1), .val (.int p2), .val (.int p3), .val (.int p4), .val (.int p5), .val (.ref b1), .val (.ref b16), .val (.ref b40), .unset, .unset, .unset, .unset, .unset] [(.ref x49)])) _
  refine own_go (B := T49.setTop (mkF m 133 #[.val (.int p0), .val (.int p1), .val (.int p2), .val (.int p3), .val (.int p4), .val (.int p5), .val (.ref b1), .val (.ref b16), .val (.ref b40), .val (.ref x49), .unset, .unset, .unset, .unset] [(.ref x49)])) (fun t k => ?_) ?_
  · show Steps p.tables e below (T49.setTop (mkF m 124 #[.val (.int p0), .val (.int p1), .val (.int p2), .val (.int p3), .val (.int p4), .val (.int p5), .val (.ref b1), .val (.ref b16), .val (.ref b40), .unset, .unset, .unset, .unset, .unset] [(.ref x49)])) t
    refine XS.astore X49.here hx rfl (hb hby at_124) rfl rfl (l' := #[.val (.int p0), .val (.int p1), .val (.int p2), .val (.int p3), .val (.int p4), .val (.int p5), .val (.ref b1), .val (.ref b16), .val (.ref b40), .val (.ref x49), .unset, .unset, .unset, .unset]) rfl ?_
    refine XS.aload X49.here hx rfl (hb hby at_126) rfl rfl ?_
    refine XS.ifnullNo X49.here hx rfl (hb hby at_128) rfl ?_
    refine XS.aload X49.here hx rfl (hb hby at_131) rfl rfl ?_
    exact k
  obtain ⟨cl59, Ar59, -, S59, M59, -, -⟩ := id VL49
  refine own_go (B := T49.setTop (mkF m 134 #[.val (.int p0), .val (.int p1), .val (.int p2), .val (.int p3), .val (.int p4), .val (.int p5), .val (.ref b1), .val (.ref b16), .val (.ref b40), .val (.ref x49), .unset, .unset, .unset, .unset] [(.int (0 : Int32))])) (fun t k => ?_) ?_
  · refine X49.arraylength hx (by first | exact Ar59.1 | (rw [rfl]; exact Ar59.1)) (State.isArrayOf_alike hZ.alike Ar59.2.1) (g := (mkF m 133 #[.val (.int p0), .val (.int p1), .val (.int p2), .val (.int p3), .val (.int p4), .val (.int p5), .val (.ref b1), .val (.ref b16), .val (.ref b40), .val (.ref x49), .unset, .unset, .unset, .unset] [(.ref x49)])) rfl rfl (hb hby at_133) _ ?_
    rw [len_of S59 M59]
    exact k
  refine own_go (B := T49.setTop (mkF m 143 #[.val (.int p0), .val (.int p1), .val (.int p2), .val (.int p3), .val (.int p4), .val (.int p5), .val (.ref b1), .val (.ref b16), .val (.ref b40), .val (.ref x49), .unset, .unset, .unset, .unset] [(.ref b16), (.ref b40)])) (fun t k => ?_) ?_
  · show Steps p.tables e below (T49.setTop (mkF m 134 #[.val (.int p0), .val (.int p1), .val (.int p2), .val (.int p3), .val (.int p4), .val (.int p5), .val (.ref b1), .val (.ref b16), .val (.ref b40), .val (.ref x49), .unset, .unset, .unset, .unset] [(.int (0 : Int32))])) t
    refine XS.ifYes X49.here hx rfl (pc0 := 134) (pc' := 139) rfl (hb hby at_134) rfl ((if0 _ _).trans (teq (rfl : (0 : Int32) = (0 : Int32))).1) (by decide) (by decide) ?_
    refine XS.aload X49.here hx rfl (hb hby at_139) rfl rfl ?_
    refine XS.aload X49.here hx rfl (hb hby at_141) rfl rfl ?_
    exact k
  have f61 := (((((((((((((((((O0.ext E1).wr W5 g_b1).wr W7 g_b1).wr W9 g_b1).wr W11 g_b1).wr W13 g_b1).wr W15 g_b1).ext E16).wr W24 g_b16).wr W27 g_b16).wr W30 g_b16).wr W33 g_b16).wr W36 g_b16).wr W39 g_b16).ext E40).keep Kq48 (allS g_b40 all0)).keep Kq49 all0)
  have f62 := (f50.keep Kq49 nin0)
  have f63 := (f51.keep Kq49 nin0)
  have f64 := (f48_0.keep Kq49)
  have f65 := (f48_3.keep Kq49 nin0)
  have f66 := (f48_1.keep Kq49 nin0)
  have f67 := (f48_2.keep Kq49 nin0)
  have f68 := (f53.keep Kq49 nin0)
  have f69 := (((((((((EA16.wr W24).wr W27).wr W30).wr W33).wr W36).wr W39).ext E40).keep Kq48).keep Kq49)
  obtain ⟨cq60, kq60, q60a, q60b, q60c⟩ := isOf hZ rfl f64
  obtain ⟨_, _, ⟨T60, L60, k60, n60⟩, -, X60, ⟨Lc60, hQ60, l60, y60, z60⟩, st60⟩ := X49.virtualBack hx (y := (⟨"com/example/rollhaus/rollhaus/zehntausend/Turn", "roll", "([I)Lcom/example/rollhaus/rollhaus/zehntausend/Scoring;"⟩ : MethodName)) (z := (⟨"com/example/rollhaus/rollhaus/zehntausend/Turn", "roll", "([I)Lcom/example/rollhaus/rollhaus/zehntausend/Scoring;"⟩ : MethodName)) hown (mvT hZ (hw _ (List.mem_of_getElem? (i := 24) rfl))) (mvT hZ (hw _ (List.mem_of_getElem? (i := 25) rfl))) (notFace_of_selects (args := #[]) (mvT hZ (hw _ (List.mem_of_getElem? (i := 27) rfl)))) (mvT hZ (hw _ (List.mem_of_getElem? (i := 27) rfl))) (mvT hZ (hw _ (List.mem_of_getElem? (i := 26) rfl))) (by decide) (backOf (W := 0) (rmro l Z a0 hw [] b40 b16 s1 s3 kS kT k16 [d0, d1, d2, d3, d4, d5] cl T49.heap n0 (Nat.le_trans Z0 K49.1) f61 Ssg Sth f62 f63 f64 g_b40 f65 f66 f67 f68 f69 ne47 ne42 ne44 rfl hd6 hcl hc7 hrem) hZ (hw _ (List.mem_of_getElem? (i := 28) rfl)) (hw _ (List.mem_of_getElem? (i := 8) rfl)) (by decide) (by decide)) q60a q60c (g := (mkF m 143 #[.val (.int p0), .val (.int p1), .val (.int p2), .val (.int p3), .val (.int p4), .val (.int p5), .val (.ref b1), .val (.ref b16), .val (.ref b40), .val (.ref x49), .unset, .unset, .unset, .unset] [(.ref b16), (.ref b40)])) rfl (by rw [hml]; rfl) (Steps.refl _) (argsL := [(.ref b16)]) (rest := []) (lenOf pd0_3 rfl) rfl (by show 2 * 0 + _ ≤ _; exact Nat.le_of_eq rfl) (hb hby at_143) (fun _ _ => ⟨rfl, rfl, (by decide : 4 + 5 ≤ _), (by decide : 15 + 27 ≤ _)⟩)
  dsimp only [Pt.U, Pt.locs, Pt.cells, Pt.slots] at X60 l60 y60 z60 st60 hQ60
  subst y60 z60
  have X60 : Stand p l e room_1 s m #[(.int p0), (.int p1), (.int p2), (.int p3), (.int p4), (.int p5)] below meth c T60 _ 9 42 := X60
  have f70 := (f52.keep Kq49 nin0)
  obtain ⟨x60, t60, kt60, u60, ku60, rfl, N60q, Kq60, lt_x60, lt_t60, ne_60, f60_0, f60_1, f60_2, f60_3, f60_4, lt_u60, f60_5, f60_6, f60_7, f60_8, f60_9, f60_10⟩ := hQ60
  have N60 : Fr n0 L60 := by rw [l60]; exact Fr.app N49 N60q
  have K60 : Keep h0 T60.heap [] := K49.trans Kq60 (allS (Or.inr sz_b40) all0)
  have sz_x60 : h0.size ≤ x60 := Nat.le_trans K49.1 lt_x60
  have g_x60 : n0 ≤ x60 := Nat.le_trans Z0 sz_x60
  have ne71 : s1 ≠ x60 := Nat.ne_of_lt (Nat.lt_of_lt_of_le f62.lt lt_x60)
  have ne72 : s3 ≠ x60 := Nat.ne_of_lt (Nat.lt_of_lt_of_le f63.lt lt_x60)
  have ne73 : b1 ≠ x60 := Nat.ne_of_lt (Nat.lt_of_lt_of_le f70.lt lt_x60)
  have ne74 : b16 ≠ x60 := Nat.ne_of_lt (Nat.lt_of_lt_of_le f68.lt lt_x60)
  have ne75 : b40 ≠ x60 := Nat.ne_of_lt (Nat.lt_of_lt_of_le f64.lt lt_x60)
  have ne76 : x49 ≠ x60 := Nat.ne_of_lt (Nat.lt_of_lt_of_le EA49.lt lt_x60)
  have sz_t60 : h0.size ≤ t60 := Nat.le_trans K49.1 lt_t60
  have g_t60 : n0 ≤ t60 := Nat.le_trans Z0 sz_t60
  have ne77 : s1 ≠ t60 := Nat.ne_of_lt (Nat.lt_of_lt_of_le f62.lt lt_t60)
  have ne78 : s3 ≠ t60 := Nat.ne_of_lt (Nat.lt_of_lt_of_le f63.lt lt_t60)
  have ne79 : b1 ≠ t60 := Nat.ne_of_lt (Nat.lt_of_lt_of_le f70.lt lt_t60)
  have ne80 : b16 ≠ t60 := Nat.ne_of_lt (Nat.lt_of_lt_of_le f68.lt lt_t60)
  have ne81 : b40 ≠ t60 := Nat.ne_of_lt (Nat.lt_of_lt_of_le f64.lt lt_t60)
  have ne82 : x49 ≠ t60 := Nat.ne_of_lt (Nat.lt_of_lt_of_le EA49.lt lt_t60)
  have sz_u60 : h0.size ≤ u60 := Nat.le_trans K49.1 lt_u60
  have g_u60 : n0 ≤ u60 := Nat.le_trans Z0 sz_u60
  have ne83 : s1 ≠ u60 := Nat.ne_of_lt (Nat.lt_of_lt_of_le f62.lt lt_u60)
  have ne84 : s3 ≠ u60 := Nat.ne_of_lt (Nat.lt_of_lt_of_le f63.lt lt_u60)
  have ne85 : b1 ≠ u60 := Nat.ne_of_lt (Nat.lt_of_lt_of_le f70.lt lt_u60)
  have ne86 : b16 ≠ u60 := Nat.ne_of_lt (Nat.lt_of_lt_of_le f68.lt lt_u60)
  have ne87 : b40 ≠ u60 := Nat.ne_of_lt (Nat.lt_of_lt_of_le f64.lt lt_u60)
  have ne88 : x49 ≠ u60 := Nat.ne_of_lt (Nat.lt_of_lt_of_le EA49.lt lt_u60)
  refine own_go (fun _ k => st60.trans k) ?_
  show own_Fin p.tables e below (T60.setTop (mkF m 146 #[.val (.int p0), .val (.int p1), .val (.int p2), .val (.int p3), .val (.int p4), .val (.int p5), .val (.ref b1), .val (.ref b16), .val (.ref b40), .val (.ref x49), .unset, .unset, .unset, .unset] [(.ref x60)])) _
  refine own_go (B := T60.setTop (mkF m 152 #[.val (.int p0), .val (.int p1), .val (.int p2), .val (.int p3), .val (.int p4), .val (.int p5), .val (.ref b1), .val (.ref b16), .val (.ref b40), .val (.ref x49), .val (.ref x60), .unset, .unset, .unset] [(.int (0 : Int32)), (.int (0 : Int32)), (.ref b16)])) (fun t k => ?_) ?_
  · show Steps p.tables e below (T60.setTop (mkF m 146 #[.val (.int p0), .val (.int p1), .val (.int p2), .val (.int p3), .val (.int p4), .val (.int p5), .val (.ref b1), .val (.ref b16), .val (.ref b40), .val (.ref x49), .unset, .unset, .unset, .unset] [(.ref x60)])) t
    refine XS.astore X60.here hx rfl (hb hby at_146) rfl rfl (l' := #[.val (.int p0), .val (.int p1), .val (.int p2), .val (.int p3), .val (.int p4), .val (.int p5), .val (.ref b1), .val (.ref b16), .val (.ref b40), .val (.ref x49), .val (.ref x60), .unset, .unset, .unset]) rfl ?_
    refine XS.aload X60.here hx rfl (hb hby at_148) rfl rfl ?_
    refine XS.iconst X60.here hx rfl (hb hby at_150) ?_
    refine XS.iconst X60.here hx rfl (hb hby at_151) ?_
    exact k
  have f90 := (f68.keep Kq60 (ninS ne47 nin0))
  obtain ⟨cl89, Ar89, q89, S89, M89, Ha89, G89⟩ := id f90
  have hin89 : ¬ ((0 : Int32) < 0 ∨ cl89.slots.size ≤ ((0 : Int32)).toNatClampNeg) := inb_of S89 ⟨by decide, by decide⟩
  obtain ⟨T89, h89, X89, e89, W89, st89⟩ := stI X60 hx hZ rfl Ar89 (j := (0 : Int32)) hin89 (g := (mkF m 152 #[.val (.int p0), .val (.int p1), .val (.int p2), .val (.int p3), .val (.int p4), .val (.int p5), .val (.ref b1), .val (.ref b16), .val (.ref b40), .val (.ref x49), .val (.ref x60), .unset, .unset, .unset] [(.int (0 : Int32)), (.int (0 : Int32)), (.ref b16)])) rfl rfl (hb hby at_152)
  have N89 := Fr.snoc X89 N60 g_b16
  have K89 : Keep h0 h89 [] := K60.wr W89 (Or.inr sz_b16)
  have V89 : Arv Z h89 b16 k16 .int (6 : Int32) [(.int (0 : Int32)), (.int (own_I d1)), (.int (own_I d2)), (.int (own_I d3)), (.int (own_I d4)), (.int (own_I d5))] (.int (0 : Int32)) := Arv.set Ar89 q89 S89 M89 Ha89 G89 rfl W89 0 rfl (Nat.le_of_ble_eq_true rfl)
  refine own_go st89 ?_
  show own_Fin p.tables e below (T89.setTop (mkF m 153 #[.val (.int p0), .val (.int p1), .val (.int p2), .val (.int p3), .val (.int p4), .val (.int p5), .val (.ref b1), .val (.ref b16), .val (.ref b40), .val (.ref x49), .val (.ref x60), .unset, .unset, .unset] [])) _
  refine own_go (B := T89.setTop (mkF m 157 #[.val (.int p0), .val (.int p1), .val (.int p2), .val (.int p3), .val (.int p4), .val (.int p5), .val (.ref b1), .val (.ref b16), .val (.ref b40), .val (.ref x49), .val (.ref x60), .unset, .unset, .unset] [(.int (0 : Int32)), (.int (5 : Int32)), (.ref b16)])) (fun t k => ?_) ?_
  · show Steps p.tables e below (T89.setTop (mkF m 153 #[.val (.int p0), .val (.int p1), .val (.int p2), .val (.int p3), .val (.int p4), .val (.int p5), .val (.ref b1), .val (.ref b16), .val (.ref b40), .val (.ref x49), .val (.ref x60), .unset, .unset, .unset] [])) t
    refine XS.aload X89.here hx rfl (hb hby at_153) rfl rfl ?_
    refine XS.iconst X89.here hx rfl (hb hby at_155) ?_
    refine XS.iconst X89.here hx rfl (hb hby at_156) ?_
    exact k
  obtain ⟨cl91, Ar91, q91, S91, M91, Ha91, G91⟩ := id V89
  have hin91 : ¬ ((5 : Int32) < 0 ∨ cl91.slots.size ≤ ((5 : Int32)).toNatClampNeg) := inb_of S91 ⟨by decide, by decide⟩
  obtain ⟨T91, h91, X91, e91, W91, st91⟩ := stI X89 hx hZ e89 Ar91 (j := (5 : Int32)) hin91 (g := (mkF m 157 #[.val (.int p0), .val (.int p1), .val (.int p2), .val (.int p3), .val (.int p4), .val (.int p5), .val (.ref b1), .val (.ref b16), .val (.ref b40), .val (.ref x49), .val (.ref x60), .unset, .unset, .unset] [(.int (0 : Int32)), (.int (5 : Int32)), (.ref b16)])) rfl rfl (hb hby at_157)
  have N91 := Fr.snoc X91 N89 g_b16
  have K91 : Keep h0 h91 [] := K89.wr W91 (Or.inr sz_b16)
  have V91 : Arv Z h91 b16 k16 .int (6 : Int32) [(.int (0 : Int32)), (.int (own_I d1)), (.int (own_I d2)), (.int (own_I d3)), (.int (own_I d4)), (.int (0 : Int32))] (.int (0 : Int32)) := Arv.set Ar91 q91 S91 M91 Ha91 G91 rfl W91 5 rfl (Nat.le_of_ble_eq_true rfl)
  refine own_go st91 ?_
  show own_Fin p.tables e below (T91.setTop (mkF m 158 #[.val (.int p0), .val (.int p1), .val (.int p2), .val (.int p3), .val (.int p4), .val (.int p5), .val (.ref b1), .val (.ref b16), .val (.ref b40), .val (.ref x49), .val (.ref x60), .unset, .unset, .unset] [])) _
  refine own_go (B := T91.setTop (mkF m 160 #[.val (.int p0), .val (.int p1), .val (.int p2), .val (.int p3), .val (.int p4), .val (.int p5), .val (.ref b1), .val (.ref b16), .val (.ref b40), .val (.ref x49), .val (.ref x60), .unset, .unset, .unset] [(.ref b40)])) (fun t k => ?_) ?_
  · show Steps p.tables e below (T91.setTop (mkF m 158 #[.val (.int p0), .val (.int p1), .val (.int p2), .val (.int p3), .val (.int p4), .val (.int p5), .val (.ref b1), .val (.ref b16), .val (.ref b40), .val (.ref x49), .val (.ref x60), .unset, .unset, .unset] [])) t
    refine XS.aload X91.here hx rfl (hb hby at_158) rfl rfl ?_
    exact k
  have f93 := ((f60_8.other W89 (Or.inl (Ne.symm ne47))).other W91 (Or.inl (Ne.symm ne47)))
  have f94 := ((f60_6.other W89 (Ne.symm ne86)).other W91 (Ne.symm ne86))
  have f95 := ((f60_5.wr W89).wr W91)
  have f96 := ((f60_7.wr W89).wr W91)
  obtain ⟨cq92, kq92, q92a, q92b, q92c⟩ := isOf hZ e91 f96
  obtain ⟨_, _, ⟨T92, L92, k92, n92⟩, -, X92, ⟨Lc92, hQ92, l92, y92, z92⟩, st92⟩ := X91.virtualBack hx (y := (⟨"com/example/rollhaus/rollhaus/zehntausend/Turn", "thrown", "()[I"⟩ : MethodName)) (z := (⟨"com/example/rollhaus/rollhaus/zehntausend/Turn", "thrown", "()[I"⟩ : MethodName)) hown (mvT hZ (hw _ (List.mem_of_getElem? (i := 17) rfl))) (mvT hZ (hw _ (List.mem_of_getElem? (i := 18) rfl))) (notFace_of_selects (args := #[]) (mvT hZ (hw _ (List.mem_of_getElem? (i := 20) rfl)))) (mvT hZ (hw _ (List.mem_of_getElem? (i := 20) rfl))) (mvT hZ (hw _ (List.mem_of_getElem? (i := 19) rfl))) (by decide) (backOf (W := 0) (rmtc l Z a0 hw [] b40 u60 ku60 [d0, d1, d2, d3, d4, d5] h91 n0 (Nat.le_trans Z0 K91.1) f93 f94 f95) hZ (hw _ (List.mem_of_getElem? (i := 21) rfl)) (hw _ (List.mem_of_getElem? (i := 8) rfl)) (by decide) (by decide)) q92a q92c (g := (mkF m 160 #[.val (.int p0), .val (.int p1), .val (.int p2), .val (.int p3), .val (.int p4), .val (.int p5), .val (.ref b1), .val (.ref b16), .val (.ref b40), .val (.ref x49), .val (.ref x60), .unset, .unset, .unset] [(.ref b40)])) rfl (by rw [hml]; rfl) (Steps.refl _) (argsL := []) (rest := []) (lenOf pd0_2 rfl) rfl (by show 2 * 0 + _ ≤ _; exact Nat.le_of_eq rfl) (hb hby at_160) (fun _ _ => ⟨rfl, e91, (by decide : 9 + 1 ≤ _), (by decide : 42 + 6 ≤ _)⟩)
  dsimp only [Pt.U, Pt.locs, Pt.cells, Pt.slots] at X92 l92 y92 z92 st92 hQ92
  subst y92 z92
  have X92 : Stand p l e room_1 s m #[(.int p0), (.int p1), (.int p2), (.int p3), (.int p4), (.int p5)] below meth c T92 _ 10 48 := X92
  have f97 := (((f62.keep Kq60 (ninS ne42 nin0)).other W89 ne18).other W91 ne18)
  have f98 := (((f63.keep Kq60 (ninS ne44 nin0)).other W89 ne20).other W91 ne20)
  have f99 := (((f70.keep Kq60 (ninS ne46 nin0)).other W89 ne21).other W91 ne21)
  have f100 := (((EA49.keep Kq60).wr W89).wr W91)
  have f101 := ((f60_0.wr W89).wr W91)
  have f102 := ((f60_3.wr W89).wr W91)
  obtain ⟨x92, kx92, rfl, N92q, Kq92, lt_x92, EA92, V92⟩ := hQ92
  have N92 : Fr n0 L92 := by rw [l92]; exact Fr.app N91 N92q
  have K92 : Keep h0 T92.heap [] := K91.trans Kq92 all0
  have sz_x92 : h0.size ≤ x92 := Nat.le_trans K91.1 lt_x92
  have g_x92 : n0 ≤ x92 := Nat.le_trans Z0 sz_x92
  have ne103 : s1 ≠ x92 := Nat.ne_of_lt (Nat.lt_of_lt_of_le f97.lt lt_x92)
  have ne104 : s3 ≠ x92 := Nat.ne_of_lt (Nat.lt_of_lt_of_le f98.lt lt_x92)
  have ne105 : b1 ≠ x92 := Nat.ne_of_lt (Nat.lt_of_lt_of_le f99.lt lt_x92)
  have ne106 : b16 ≠ x92 := Nat.ne_of_lt (Nat.lt_of_lt_of_le V91.lt lt_x92)
  have ne107 : b40 ≠ x92 := Nat.ne_of_lt (Nat.lt_of_lt_of_le f96.lt lt_x92)
  have ne108 : x49 ≠ x92 := Nat.ne_of_lt (Nat.lt_of_lt_of_le f100.lt lt_x92)
  have ne109 : x60 ≠ x92 := Nat.ne_of_lt (Nat.lt_of_lt_of_le f101.lt lt_x92)
  have ne110 : t60 ≠ x92 := Nat.ne_of_lt (Nat.lt_of_lt_of_le f102.lt lt_x92)
  have ne111 : u60 ≠ x92 := Nat.ne_of_lt (Nat.lt_of_lt_of_le f95.lt lt_x92)
  have VL92 : Arv Z T92.heap x92 kx92 .int (6 : Int32) [(.int (own_I d0)), (.int (own_I d1)), (.int (own_I d2)), (.int (own_I d3)), (.int (own_I d4)), (.int (own_I d5))] (.int (0 : Int32)) := V92
  refine own_go (fun _ k => st92.trans k) ?_
  show own_Fin p.tables e below (T92.setTop (mkF m 163 #[.val (.int p0), .val (.int p1), .val (.int p2), .val (.int p3), .val (.int p4), .val (.int p5), .val (.ref b1), .val (.ref b16), .val (.ref b40), .val (.ref x49), .val (.ref x60), .unset, .unset, .unset] [(.ref x92)])) _
  refine own_go (B := T92.setTop (mkF m 169 #[.val (.int p0), .val (.int p1), .val (.int p2), .val (.int p3), .val (.int p4), .val (.int p5), .val (.ref b1), .val (.ref b16), .val (.ref b40), .val (.ref x49), .val (.ref x60), .val (.ref x92), .unset, .unset] [(.ref b1), (.ref x92)])) (fun t k => ?_) ?_
  · show Steps p.tables e below (T92.setTop (mkF m 163 #[.val (.int p0), .val (.int p1), .val (.int p2), .val (.int p3), .val (.int p4), .val (.int p5), .val (.ref b1), .val (.ref b16), .val (.ref b40), .val (.ref x49), .val (.ref x60), .unset, .unset, .unset] [(.ref x92)])) t
    refine XS.astore X92.here hx rfl (hb hby at_163) rfl rfl (l' := #[.val (.int p0), .val (.int p1), .val (.int p2), .val (.int p3), .val (.int p4), .val (.int p5), .val (.ref b1), .val (.ref b16), .val (.ref b40), .val (.ref x49), .val (.ref x60), .val (.ref x92), .unset, .unset]) rfl ?_
    refine XS.aload X92.here hx rfl (hb hby at_165) rfl rfl ?_
    refine XS.aload X92.here hx rfl (hb hby at_167) rfl rfl ?_
    exact k
  have f113 := (f99.keep Kq92 nin0)
  obtain ⟨_, _, ⟨T112, L112, k112, n112⟩, -, X112, ⟨Lc112, hQ112, l112, y112, z112⟩, st112⟩ := Jvm.LawKit.callS X92 hx (y := (⟨"com/example/rollhaus/rollhaus/zehntausend/TurnThrownPinLaw", "same", "([I[I)Z"⟩ : MethodName)) hown (mvT hZ (hw _ (List.mem_of_getElem? (i := 82) rfl))) (mvT hZ (hw _ (List.mem_of_getElem? (i := 83) rfl))) (mvT hZ (hw _ (List.mem_of_getElem? (i := 3) rfl))) (mvT hZ (hw _ (List.mem_of_getElem? (i := 84) rfl))) (by decide) (backOf (W := 0) (rmsm l Z a0 hw [] x92 b1 kx92 k1 d0 d1 d2 d3 d4 d5 T92.heap n0 (Nat.le_trans Z0 K92.1) VL92 f113) hZ (hw _ (List.mem_of_getElem? (i := 84) rfl)) (hw _ (List.mem_of_getElem? (i := 3) rfl)) (by decide) (by decide)) (g := (mkF m 169 #[.val (.int p0), .val (.int p1), .val (.int p2), .val (.int p3), .val (.int p4), .val (.int p5), .val (.ref b1), .val (.ref b16), .val (.ref b40), .val (.ref x49), .val (.ref x60), .val (.ref x92), .unset, .unset] [(.ref b1), (.ref x92)])) rfl (by rw [hml]; rfl) (argsL := [(.ref x92), (.ref b1)]) (rest := []) (lenOf pd0_4 rfl) rfl (by show 2 * 0 + _ ≤ _; exact Nat.le_of_eq rfl) (hb hby at_169) (fun _ _ => ⟨rfl, rfl, (by decide : 10 + 0 ≤ _), (by decide : 48 + 0 ≤ _)⟩)
  dsimp only [Pt.U, Pt.locs, Pt.cells, Pt.slots] at X112 l112 y112 z112 st112 hQ112
  subst y112 z112
  have X112 : Stand p l e room_1 s m #[(.int p0), (.int p1), (.int p2), (.int p3), (.int p4), (.int p5)] below meth c T112 _ 10 48 := X112
  obtain ⟨rfl, N112q, e112⟩ := hQ112
  have N112 : Fr n0 L112 := by rw [l112]; exact Fr.app N92 N112q
  refine own_go (st112) ?_
  show own_Fin p.tables e below (T112.setTop (mkF m 172 #[.val (.int p0), .val (.int p1), .val (.int p2), .val (.int p3), .val (.int p4), .val (.int p5), .val (.ref b1), .val (.ref b16), .val (.ref b40), .val (.ref x49), .val (.ref x60), .val (.ref x92), .unset, .unset] [(.int (1 : Int32))])) _
  refine own_go (B := T112.setTop (mkF m 181 #[.val (.int p0), .val (.int p1), .val (.int p2), .val (.int p3), .val (.int p4), .val (.int p5), .val (.ref b1), .val (.ref b16), .val (.ref b40), .val (.ref x49), .val (.ref x60), .val (.ref x92), .unset, .unset] [(.int (0 : Int32)), (.int (0 : Int32)), (.ref x92)])) (fun t k => ?_) ?_
  · show Steps p.tables e below (T112.setTop (mkF m 172 #[.val (.int p0), .val (.int p1), .val (.int p2), .val (.int p3), .val (.int p4), .val (.int p5), .val (.ref b1), .val (.ref b16), .val (.ref b40), .val (.ref x49), .val (.ref x60), .val (.ref x92), .unset, .unset] [(.int (1 : Int32))])) t
    refine XS.ifYes X112.here hx rfl (pc0 := 172) (pc' := 177) rfl (hb hby at_172) rfl ((if0 _ _).trans (feq (by decide : ¬ ((1 : Int32) = (0 : Int32)))).2) (by decide) (by decide) ?_
    refine XS.aload X112.here hx rfl (hb hby at_177) rfl rfl ?_
    refine XS.iconst X112.here hx rfl (hb hby at_179) ?_
    refine XS.iconst X112.here hx rfl (hb hby at_180) ?_
    exact k
  obtain ⟨cl114, Ar114, q114, S114, M114, Ha114, G114⟩ := id VL92
  have hin114 : ¬ ((0 : Int32) < 0 ∨ cl114.slots.size ≤ ((0 : Int32)).toNatClampNeg) := inb_of S114 ⟨by decide, by decide⟩
  obtain ⟨T114, h114, X114, e114, W114, st114⟩ := stI X112 hx hZ e112 Ar114 (j := (0 : Int32)) hin114 (g := (mkF m 181 #[.val (.int p0), .val (.int p1), .val (.int p2), .val (.int p3), .val (.int p4), .val (.int p5), .val (.ref b1), .val (.ref b16), .val (.ref b40), .val (.ref x49), .val (.ref x60), .val (.ref x92), .unset, .unset] [(.int (0 : Int32)), (.int (0 : Int32)), (.ref x92)])) rfl rfl (hb hby at_181)
  have N114 := Fr.snoc X114 N112 g_x92
  have K114 : Keep h0 h114 [] := K92.wr W114 (Or.inr sz_x92)
  have V114 : Arv Z h114 x92 kx92 .int (6 : Int32) [(.int (0 : Int32)), (.int (own_I d1)), (.int (own_I d2)), (.int (own_I d3)), (.int (own_I d4)), (.int (own_I d5))] (.int (0 : Int32)) := Arv.set Ar114 q114 S114 M114 Ha114 G114 rfl W114 0 rfl (Nat.le_of_ble_eq_true rfl)
  refine own_go st114 ?_
  show own_Fin p.tables e below (T114.setTop (mkF m 182 #[.val (.int p0), .val (.int p1), .val (.int p2), .val (.int p3), .val (.int p4), .val (.int p5), .val (.ref b1), .val (.ref b16), .val (.ref b40), .val (.ref x49), .val (.ref x60), .val (.ref x92), .unset, .unset] [])) _
  refine own_go (B := T114.setTop (mkF m 186 #[.val (.int p0), .val (.int p1), .val (.int p2), .val (.int p3), .val (.int p4), .val (.int p5), .val (.ref b1), .val (.ref b16), .val (.ref b40), .val (.ref x49), .val (.ref x60), .val (.ref x92), .unset, .unset] [(.int (0 : Int32)), (.int (3 : Int32)), (.ref x92)])) (fun t k => ?_) ?_
  · show Steps p.tables e below (T114.setTop (mkF m 182 #[.val (.int p0), .val (.int p1), .val (.int p2), .val (.int p3), .val (.int p4), .val (.int p5), .val (.ref b1), .val (.ref b16), .val (.ref b40), .val (.ref x49), .val (.ref x60), .val (.ref x92), .unset, .unset] [])) t
    refine XS.aload X114.here hx rfl (hb hby at_182) rfl rfl ?_
    refine XS.iconst X114.here hx rfl (hb hby at_184) ?_
    refine XS.iconst X114.here hx rfl (hb hby at_185) ?_
    exact k
  obtain ⟨cl115, Ar115, q115, S115, M115, Ha115, G115⟩ := id V114
  have hin115 : ¬ ((3 : Int32) < 0 ∨ cl115.slots.size ≤ ((3 : Int32)).toNatClampNeg) := inb_of S115 ⟨by decide, by decide⟩
  obtain ⟨T115, h115, X115, e115, W115, st115⟩ := stI X114 hx hZ e114 Ar115 (j := (3 : Int32)) hin115 (g := (mkF m 186 #[.val (.int p0), .val (.int p1), .val (.int p2), .val (.int p3), .val (.int p4), .val (.int p5), .val (.ref b1), .val (.ref b16), .val (.ref b40), .val (.ref x49), .val (.ref x60), .val (.ref x92), .unset, .unset] [(.int (0 : Int32)), (.int (3 : Int32)), (.ref x92)])) rfl rfl (hb hby at_186)
  have N115 := Fr.snoc X115 N114 g_x92
  have K115 : Keep h0 h115 [] := K114.wr W115 (Or.inr sz_x92)
  have V115 : Arv Z h115 x92 kx92 .int (6 : Int32) [(.int (0 : Int32)), (.int (own_I d1)), (.int (own_I d2)), (.int (0 : Int32)), (.int (own_I d4)), (.int (own_I d5))] (.int (0 : Int32)) := Arv.set Ar115 q115 S115 M115 Ha115 G115 rfl W115 3 rfl (Nat.le_of_ble_eq_true rfl)
  refine own_go st115 ?_
  show own_Fin p.tables e below (T115.setTop (mkF m 187 #[.val (.int p0), .val (.int p1), .val (.int p2), .val (.int p3), .val (.int p4), .val (.int p5), .val (.ref b1), .val (.ref b16), .val (.ref b40), .val (.ref x49), .val (.ref x60), .val (.ref x92), .unset, .unset] [])) _
  refine own_go (B := T115.setTop (mkF m 189 #[.val (.int p0), .val (.int p1), .val (.int p2), .val (.int p3), .val (.int p4), .val (.int p5), .val (.ref b1), .val (.ref b16), .val (.ref b40), .val (.ref x49), .val (.ref x60), .val (.ref x92), .unset, .unset] [(.ref b40)])) (fun t k => ?_) ?_
  · show Steps p.tables e below (T115.setTop (mkF m 187 #[.val (.int p0), .val (.int p1), .val (.int p2), .val (.int p3), .val (.int p4), .val (.int p5), .val (.ref b1), .val (.ref b16), .val (.ref b40), .val (.ref x49), .val (.ref x60), .val (.ref x92), .unset, .unset] [])) t
    refine XS.aload X115.here hx rfl (hb hby at_187) rfl rfl ?_
    exact k
  have f117 := (((f93.keep Kq92 nin0).other W114 (Or.inl ne107)).other W115 (Or.inl ne107))
  have f118 := (((f94.keep Kq92 nin0).other W114 ne111).other W115 ne111)
  have f119 := (((f95.keep Kq92).wr W114).wr W115)
  have f120 := (((f96.keep Kq92).wr W114).wr W115)
  obtain ⟨cq116, kq116, q116a, q116b, q116c⟩ := isOf hZ e115 f120
  obtain ⟨_, _, ⟨T116, L116, k116, n116⟩, -, X116, ⟨Lc116, hQ116, l116, y116, z116⟩, st116⟩ := X115.virtualBack hx (y := (⟨"com/example/rollhaus/rollhaus/zehntausend/Turn", "thrown", "()[I"⟩ : MethodName)) (z := (⟨"com/example/rollhaus/rollhaus/zehntausend/Turn", "thrown", "()[I"⟩ : MethodName)) hown (mvT hZ (hw _ (List.mem_of_getElem? (i := 17) rfl))) (mvT hZ (hw _ (List.mem_of_getElem? (i := 18) rfl))) (notFace_of_selects (args := #[]) (mvT hZ (hw _ (List.mem_of_getElem? (i := 20) rfl)))) (mvT hZ (hw _ (List.mem_of_getElem? (i := 20) rfl))) (mvT hZ (hw _ (List.mem_of_getElem? (i := 19) rfl))) (by decide) (backOf (W := 0) (rmtc l Z a0 hw [] b40 u60 ku60 [d0, d1, d2, d3, d4, d5] h115 n0 (Nat.le_trans Z0 K115.1) f117 f118 f119) hZ (hw _ (List.mem_of_getElem? (i := 21) rfl)) (hw _ (List.mem_of_getElem? (i := 8) rfl)) (by decide) (by decide)) q116a q116c (g := (mkF m 189 #[.val (.int p0), .val (.int p1), .val (.int p2), .val (.int p3), .val (.int p4), .val (.int p5), .val (.ref b1), .val (.ref b16), .val (.ref b40), .val (.ref x49), .val (.ref x60), .val (.ref x92), .unset, .unset] [(.ref b40)])) rfl (by rw [hml]; rfl) (Steps.refl _) (argsL := []) (rest := []) (lenOf pd0_2 rfl) rfl (by show 2 * 0 + _ ≤ _; exact Nat.le_of_eq rfl) (hb hby at_189) (fun _ _ => ⟨rfl, e115, (by decide : 10 + 1 ≤ _), (by decide : 48 + 6 ≤ _)⟩)
  dsimp only [Pt.U, Pt.locs, Pt.cells, Pt.slots] at X116 l116 y116 z116 st116 hQ116
  subst y116 z116
  have X116 : Stand p l e room_1 s m #[(.int p0), (.int p1), (.int p2), (.int p3), (.int p4), (.int p5)] below meth c T116 _ 11 54 := X116
  have f121 := (((f97.keep Kq92 nin0).other W114 ne103).other W115 ne103)
  have f122 := (((f98.keep Kq92 nin0).other W114 ne104).other W115 ne104)
  have f123 := ((f113.other W114 ne105).other W115 ne105)
  have f124 := (((V91.keep Kq92 nin0).other W114 ne106).other W115 ne106)
  have f125 := (((f100.keep Kq92).wr W114).wr W115)
  have f126 := (((f101.keep Kq92).wr W114).wr W115)
  have f127 := (((f102.keep Kq92).wr W114).wr W115)
  have f128 := ((EA92.wr W114).wr W115)
  obtain ⟨x116, kx116, rfl, N116q, Kq116, lt_x116, EA116, V116⟩ := hQ116
  have N116 : Fr n0 L116 := by rw [l116]; exact Fr.app N115 N116q
  have K116 : Keep h0 T116.heap [] := K115.trans Kq116 all0
  have sz_x116 : h0.size ≤ x116 := Nat.le_trans K115.1 lt_x116
  have g_x116 : n0 ≤ x116 := Nat.le_trans Z0 sz_x116
  have ne129 : s1 ≠ x116 := Nat.ne_of_lt (Nat.lt_of_lt_of_le f121.lt lt_x116)
  have ne130 : s3 ≠ x116 := Nat.ne_of_lt (Nat.lt_of_lt_of_le f122.lt lt_x116)
  have ne131 : b1 ≠ x116 := Nat.ne_of_lt (Nat.lt_of_lt_of_le f123.lt lt_x116)
  have ne132 : b16 ≠ x116 := Nat.ne_of_lt (Nat.lt_of_lt_of_le f124.lt lt_x116)
  have ne133 : b40 ≠ x116 := Nat.ne_of_lt (Nat.lt_of_lt_of_le f120.lt lt_x116)
  have ne134 : x49 ≠ x116 := Nat.ne_of_lt (Nat.lt_of_lt_of_le f125.lt lt_x116)
  have ne135 : x60 ≠ x116 := Nat.ne_of_lt (Nat.lt_of_lt_of_le f126.lt lt_x116)
  have ne136 : t60 ≠ x116 := Nat.ne_of_lt (Nat.lt_of_lt_of_le f127.lt lt_x116)
  have ne137 : u60 ≠ x116 := Nat.ne_of_lt (Nat.lt_of_lt_of_le f119.lt lt_x116)
  have ne138 : x92 ≠ x116 := Nat.ne_of_lt (Nat.lt_of_lt_of_le f128.lt lt_x116)
  have VL116 : Arv Z T116.heap x116 kx116 .int (6 : Int32) [(.int (own_I d0)), (.int (own_I d1)), (.int (own_I d2)), (.int (own_I d3)), (.int (own_I d4)), (.int (own_I d5))] (.int (0 : Int32)) := V116
  refine own_go (fun _ k => st116.trans k) ?_
  show own_Fin p.tables e below (T116.setTop (mkF m 192 #[.val (.int p0), .val (.int p1), .val (.int p2), .val (.int p3), .val (.int p4), .val (.int p5), .val (.ref b1), .val (.ref b16), .val (.ref b40), .val (.ref x49), .val (.ref x60), .val (.ref x92), .unset, .unset] [(.ref x116)])) _
  refine own_go (B := T116.setTop (mkF m 198 #[.val (.int p0), .val (.int p1), .val (.int p2), .val (.int p3), .val (.int p4), .val (.int p5), .val (.ref b1), .val (.ref b16), .val (.ref b40), .val (.ref x49), .val (.ref x60), .val (.ref x92), .val (.ref x116), .unset] [(.ref b1), (.ref x116)])) (fun t k => ?_) ?_
  · show Steps p.tables e below (T116.setTop (mkF m 192 #[.val (.int p0), .val (.int p1), .val (.int p2), .val (.int p3), .val (.int p4), .val (.int p5), .val (.ref b1), .val (.ref b16), .val (.ref b40), .val (.ref x49), .val (.ref x60), .val (.ref x92), .unset, .unset] [(.ref x116)])) t
    refine XS.astore X116.here hx rfl (hb hby at_192) rfl rfl (l' := #[.val (.int p0), .val (.int p1), .val (.int p2), .val (.int p3), .val (.int p4), .val (.int p5), .val (.ref b1), .val (.ref b16), .val (.ref b40), .val (.ref x49), .val (.ref x60), .val (.ref x92), .val (.ref x116), .unset]) rfl ?_
    refine XS.aload X116.here hx rfl (hb hby at_194) rfl rfl ?_
    refine XS.aload X116.here hx rfl (hb hby at_196) rfl rfl ?_
    exact k
  have f140 := (f123.keep Kq116 nin0)
  obtain ⟨_, _, ⟨T139, L139, k139, n139⟩, -, X139, ⟨Lc139, hQ139, l139, y139, z139⟩, st139⟩ := Jvm.LawKit.callS X116 hx (y := (⟨"com/example/rollhaus/rollhaus/zehntausend/TurnThrownPinLaw", "same", "([I[I)Z"⟩ : MethodName)) hown (mvT hZ (hw _ (List.mem_of_getElem? (i := 82) rfl))) (mvT hZ (hw _ (List.mem_of_getElem? (i := 83) rfl))) (mvT hZ (hw _ (List.mem_of_getElem? (i := 3) rfl))) (mvT hZ (hw _ (List.mem_of_getElem? (i := 84) rfl))) (by decide) (backOf (W := 0) (rmsm l Z a0 hw [] x116 b1 kx116 k1 d0 d1 d2 d3 d4 d5 T116.heap n0 (Nat.le_trans Z0 K116.1) VL116 f140) hZ (hw _ (List.mem_of_getElem? (i := 84) rfl)) (hw _ (List.mem_of_getElem? (i := 3) rfl)) (by decide) (by decide)) (g := (mkF m 198 #[.val (.int p0), .val (.int p1), .val (.int p2), .val (.int p3), .val (.int p4), .val (.int p5), .val (.ref b1), .val (.ref b16), .val (.ref b40), .val (.ref x49), .val (.ref x60), .val (.ref x92), .val (.ref x116), .unset] [(.ref b1), (.ref x116)])) rfl (by rw [hml]; rfl) (argsL := [(.ref x116), (.ref b1)]) (rest := []) (lenOf pd0_4 rfl) rfl (by show 2 * 0 + _ ≤ _; exact Nat.le_of_eq rfl) (hb hby at_198) (fun _ _ => ⟨rfl, rfl, (by decide : 11 + 0 ≤ _), (by decide : 54 + 0 ≤ _)⟩)
  dsimp only [Pt.U, Pt.locs, Pt.cells, Pt.slots] at X139 l139 y139 z139 st139 hQ139
  subst y139 z139
  have X139 : Stand p l e room_1 s m #[(.int p0), (.int p1), (.int p2), (.int p3), (.int p4), (.int p5)] below meth c T139 _ 11 54 := X139
  obtain ⟨rfl, N139q, e139⟩ := hQ139
  have N139 : Fr n0 L139 := by rw [l139]; exact Fr.app N116 N139q
  refine own_go (st139) ?_
  show own_Fin p.tables e below (T139.setTop (mkF m 201 #[.val (.int p0), .val (.int p1), .val (.int p2), .val (.int p3), .val (.int p4), .val (.int p5), .val (.ref b1), .val (.ref b16), .val (.ref b40), .val (.ref x49), .val (.ref x60), .val (.ref x92), .val (.ref x116), .unset] [(.int (1 : Int32))])) _
  refine own_go (B := T139.setTop (mkF m 208 #[.val (.int p0), .val (.int p1), .val (.int p2), .val (.int p3), .val (.int p4), .val (.int p5), .val (.ref b1), .val (.ref b16), .val (.ref b40), .val (.ref x49), .val (.ref x60), .val (.ref x92), .val (.ref x116), .unset] [(.ref x60)])) (fun t k => ?_) ?_
  · show Steps p.tables e below (T139.setTop (mkF m 201 #[.val (.int p0), .val (.int p1), .val (.int p2), .val (.int p3), .val (.int p4), .val (.int p5), .val (.ref b1), .val (.ref b16), .val (.ref b40), .val (.ref x49), .val (.ref x60), .val (.ref x92), .val (.ref x116), .unset] [(.int (1 : Int32))])) t
    refine XS.ifYes X139.here hx rfl (pc0 := 201) (pc' := 206) rfl (hb hby at_201) rfl ((if0 _ _).trans (feq (by decide : ¬ ((1 : Int32) = (0 : Int32)))).2) (by decide) (by decide) ?_
    refine XS.aload X139.here hx rfl (hb hby at_206) rfl rfl ?_
    exact k
  have f142 := ((((((f60_1.other W89 (Or.inl (Ne.symm ne74))).other W91 (Or.inl (Ne.symm ne74))).keep Kq92 nin0).other W114 (Or.inl ne109)).other W115 (Or.inl ne109)).keep Kq116 nin0)
  have f143 := (f126.keep Kq116)
  obtain ⟨cq141, kq141, q141a, q141b, q141c⟩ := isOf hZ e139 f143
  obtain ⟨_, _, ⟨T141, L141, k141, n141⟩, -, X141, ⟨Lc141, hQ141, l141, y141, z141⟩, st141⟩ := X139.virtualBack hx (y := (⟨"com/example/rollhaus/rollhaus/zehntausend/Scoring", "points", "()I"⟩ : MethodName)) (z := (⟨"com/example/rollhaus/rollhaus/zehntausend/Scoring", "points", "()I"⟩ : MethodName)) hown (mvT hZ (hw _ (List.mem_of_getElem? (i := 85) rfl))) (mvT hZ (hw _ (List.mem_of_getElem? (i := 86) rfl))) (notFace_of_selects (args := #[]) (mvT hZ (hw _ (List.mem_of_getElem? (i := 88) rfl)))) (mvT hZ (hw _ (List.mem_of_getElem? (i := 88) rfl))) (mvT hZ (hw _ (List.mem_of_getElem? (i := 87) rfl))) (by decide) (backOf (W := 0) (rmsp l Z a0 hw [] x60 (own_res cl).1 T116.heap n0 (Nat.le_trans Z0 K116.1) f142) hZ (hw _ (List.mem_of_getElem? (i := 89) rfl)) (hw _ (List.mem_of_getElem? (i := 31) rfl)) (by decide) (by decide)) q141a q141c (g := (mkF m 208 #[.val (.int p0), .val (.int p1), .val (.int p2), .val (.int p3), .val (.int p4), .val (.int p5), .val (.ref b1), .val (.ref b16), .val (.ref b40), .val (.ref x49), .val (.ref x60), .val (.ref x92), .val (.ref x116), .unset] [(.ref x60)])) rfl (by rw [hml]; rfl) (Steps.refl _) (argsL := []) (rest := []) (lenOf pd0_5 rfl) rfl (by show 2 * 0 + _ ≤ _; exact Nat.le_of_eq rfl) (hb hby at_208) (fun _ _ => ⟨rfl, e139, (by decide : 11 + 0 ≤ _), (by decide : 54 + 0 ≤ _)⟩)
  dsimp only [Pt.U, Pt.locs, Pt.cells, Pt.slots] at X141 l141 y141 z141 st141 hQ141
  subst y141 z141
  have X141 : Stand p l e room_1 s m #[(.int p0), (.int p1), (.int p2), (.int p3), (.int p4), (.int p5)] below meth c T141 _ 11 54 := X141
  obtain ⟨rfl, N141q, e141⟩ := hQ141
  have N141 : Fr n0 L141 := by rw [l141]; exact Fr.app N139 N141q
  refine own_go (fun _ k => st141.trans k) ?_
  show own_Fin p.tables e below (T141.setTop (mkF m 211 #[.val (.int p0), .val (.int p1), .val (.int p2), .val (.int p3), .val (.int p4), .val (.int p5), .val (.ref b1), .val (.ref b16), .val (.ref b40), .val (.ref x49), .val (.ref x60), .val (.ref x92), .val (.ref x116), .unset] [(.int (own_I (own_res cl).1))])) _
  by_cases hc144 : (own_I (own_res cl).1) = (0 : Int32)
  · skip
    refine own_go (B := T141.setTop (mkF m 215 #[.val (.int p0), .val (.int p1), .val (.int p2), .val (.int p3), .val (.int p4), .val (.int p5), .val (.ref b1), .val (.ref b16), .val (.ref b40), .val (.ref x49), .val (.ref x60), .val (.ref x92), .val (.ref x116), .unset] [(.int (1 : Int32))])) (fun t k => ?_) ?_
    · show Steps p.tables e below (T141.setTop (mkF m 211 #[.val (.int p0), .val (.int p1), .val (.int p2), .val (.int p3), .val (.int p4), .val (.int p5), .val (.ref b1), .val (.ref b16), .val (.ref b40), .val (.ref x49), .val (.ref x60), .val (.ref x92), .val (.ref x116), .unset] [(.int (own_I (own_res cl).1))])) t
      refine XS.ifNo X141.here hx rfl (hb hby at_211) rfl ((if0 _ _).trans (teq hc144).2) ?_
      refine XS.iconst X141.here hx rfl (hb hby at_214) ?_
      exact k
    obtain ⟨fs, hr, hrun, hended, hW, hsame⟩ := X141.leave (v := some (.int (1 : Int32))) (fun h => by rw [Bd.returns] at h; cases h)
    refine ⟨_, _, ?_, hrun, hended, _, _, rfl, ?_, ⟨_, rfl⟩, hW, hsame.mono (by decide) (by decide)⟩
    · exact retOut X141 hx (t := .boolean) Bd.returns rfl (Or.inl ⟨rfl, by simp, _, rfl⟩) (hb hby at_215) hr
    · show Q0 Z p0 p1 p2 p3 p4 p5 s1 s3 kS kT h0 n0 _ T141.heap _
      rw [e141]
      exact ⟨rfl, N141⟩
  · skip
    refine own_go (B := T141.setTop (mkF m 216 #[.val (.int p0), .val (.int p1), .val (.int p2), .val (.int p3), .val (.int p4), .val (.int p5), .val (.ref b1), .val (.ref b16), .val (.ref b40), .val (.ref x49), .val (.ref x60), .val (.ref x92), .val (.ref x116), .unset] [])) (fun t k => ?_) ?_
    · show Steps p.tables e below (T141.setTop (mkF m 211 #[.val (.int p0), .val (.int p1), .val (.int p2), .val (.int p3), .val (.int p4), .val (.int p5), .val (.ref b1), .val (.ref b16), .val (.ref b40), .val (.ref x49), .val (.ref x60), .val (.ref x92), .val (.ref x116), .unset] [(.int (own_I (own_res cl).1))])) t
      refine XS.ifYes X141.here hx rfl (pc0 := 211) (pc' := 216) rfl (hb hby at_211) rfl ((if0 _ _).trans (feq hc144).2) (by decide) (by decide) ?_
      exact k
    have hg4 := hgd.2.2.2 (fun q => hc144 ((own_z0 hgd.1).mpr q))
    refine own_go (B := T141.setTop (mkF m 220 #[.val (.int p0), .val (.int p1), .val (.int p2), .val (.int p3), .val (.int p4), .val (.int p5), .val (.ref b1), .val (.ref b16), .val (.ref b40), .val (.ref x49), .val (.ref x60), .val (.ref x92), .val (.ref x116), .unset] [(.ref x60), (.ref b40)])) (fun t k => ?_) ?_
    · show Steps p.tables e below (T141.setTop (mkF m 216 #[.val (.int p0), .val (.int p1), .val (.int p2), .val (.int p3), .val (.int p4), .val (.int p5), .val (.ref b1), .val (.ref b16), .val (.ref b40), .val (.ref x49), .val (.ref x60), .val (.ref x92), .val (.ref x116), .unset] [])) t
      refine XS.aload X141.here hx rfl (hb hby at_216) rfl rfl ?_
      refine XS.aload X141.here hx rfl (hb hby at_218) rfl rfl ?_
      exact k
    have f147 := ((((((f60_2.other W89 (Or.inl (Ne.symm ne74))).other W91 (Or.inl (Ne.symm ne74))).keep Kq92 nin0).other W114 (Or.inl ne109)).other W115 (Or.inl ne109)).keep Kq116 nin0)
    have f148 := ((((((f60_4.other W89 (Ne.symm ne80)).other W91 (Ne.symm ne80)).keep Kq92 nin0).other W114 ne110).other W115 ne110).keep Kq116 nin0)
    have f149 := (f127.keep Kq116)
    obtain ⟨cq146, kq146, q146a, q146b, q146c⟩ := isOf hZ e141 f143
    obtain ⟨_, _, ⟨T146, L146, k146, n146⟩, -, X146, ⟨Lc146, hQ146, l146, y146, z146⟩, st146⟩ := X141.virtualBack hx (y := (⟨"com/example/rollhaus/rollhaus/zehntausend/Scoring", "dice", "()[I"⟩ : MethodName)) (z := (⟨"com/example/rollhaus/rollhaus/zehntausend/Scoring", "dice", "()[I"⟩ : MethodName)) hown (mvT hZ (hw _ (List.mem_of_getElem? (i := 90) rfl))) (mvT hZ (hw _ (List.mem_of_getElem? (i := 91) rfl))) (notFace_of_selects (args := #[]) (mvT hZ (hw _ (List.mem_of_getElem? (i := 93) rfl)))) (mvT hZ (hw _ (List.mem_of_getElem? (i := 93) rfl))) (mvT hZ (hw _ (List.mem_of_getElem? (i := 92) rfl))) (by decide) (backOf (W := 1) (rmsd l Z a0 hw [] x60 t60 kt60 ((own_res cl).2.length) (own_res cl).2 T116.heap n0 (Nat.le_trans Z0 K116.1) f147 f148 f149 hgd.2.1) hZ (hw _ (List.mem_of_getElem? (i := 94) rfl)) (hw _ (List.mem_of_getElem? (i := 31) rfl)) (by decide) (by decide)) q146a q146c (g := (mkF m 220 #[.val (.int p0), .val (.int p1), .val (.int p2), .val (.int p3), .val (.int p4), .val (.int p5), .val (.ref b1), .val (.ref b16), .val (.ref b40), .val (.ref x49), .val (.ref x60), .val (.ref x92), .val (.ref x116), .unset] [(.ref x60), (.ref b40)])) rfl (by rw [hml]; rfl) (Steps.refl _) (argsL := []) (rest := [(.ref b40)]) (lenOf pd0_2 rfl) rfl (by show 2 * 0 + _ ≤ _; exact Nat.le_of_eq rfl) (hb hby at_220) (fun _ _ => ⟨rfl, e141, (by decide : 11 + 1 ≤ _), (by decide : 54 + 6 ≤ _)⟩)
    dsimp only [Pt.U, Pt.locs, Pt.cells, Pt.slots] at X146 l146 y146 z146 st146 hQ146
    subst y146 z146
    have X146 : Stand p l e room_1 s m #[(.int p0), (.int p1), (.int p2), (.int p3), (.int p4), (.int p5)] below meth c T146 _ 12 60 := X146
    have f150 := (f121.keep Kq116 nin0)
    have f151 := (f122.keep Kq116 nin0)
    have f152 := (f124.keep Kq116 nin0)
    have f153 := (f120.keep Kq116)
    have f154 := (f125.keep Kq116)
    have f155 := (f119.keep Kq116)
    have f156 := (f128.keep Kq116)
    obtain ⟨x146, kx146, rfl, N146q, Kq146, lt_x146, EA146, V146⟩ := hQ146
    have N146 : Fr n0 L146 := by rw [l146]; exact Fr.app N141 N146q
    have K146 : Keep h0 T146.heap [] := K116.trans Kq146 all0
    have sz_x146 : h0.size ≤ x146 := Nat.le_trans K116.1 lt_x146
    have g_x146 : n0 ≤ x146 := Nat.le_trans Z0 sz_x146
    have ne157 : s1 ≠ x146 := Nat.ne_of_lt (Nat.lt_of_lt_of_le f150.lt lt_x146)
    have ne158 : s3 ≠ x146 := Nat.ne_of_lt (Nat.lt_of_lt_of_le f151.lt lt_x146)
    have ne159 : b1 ≠ x146 := Nat.ne_of_lt (Nat.lt_of_lt_of_le f140.lt lt_x146)
    have ne160 : b16 ≠ x146 := Nat.ne_of_lt (Nat.lt_of_lt_of_le f152.lt lt_x146)
    have ne161 : b40 ≠ x146 := Nat.ne_of_lt (Nat.lt_of_lt_of_le f153.lt lt_x146)
    have ne162 : x49 ≠ x146 := Nat.ne_of_lt (Nat.lt_of_lt_of_le f154.lt lt_x146)
    have ne163 : x60 ≠ x146 := Nat.ne_of_lt (Nat.lt_of_lt_of_le f143.lt lt_x146)
    have ne164 : t60 ≠ x146 := Nat.ne_of_lt (Nat.lt_of_lt_of_le f149.lt lt_x146)
    have ne165 : u60 ≠ x146 := Nat.ne_of_lt (Nat.lt_of_lt_of_le f155.lt lt_x146)
    have ne166 : x92 ≠ x146 := Nat.ne_of_lt (Nat.lt_of_lt_of_le f156.lt lt_x146)
    have ne167 : x116 ≠ x146 := Nat.ne_of_lt (Nat.lt_of_lt_of_le EA116.lt lt_x146)
    refine own_go (fun _ k => st146.trans k) ?_
    show own_Fin p.tables e below (T146.setTop (mkF m 223 #[.val (.int p0), .val (.int p1), .val (.int p2), .val (.int p3), .val (.int p4), .val (.int p5), .val (.ref b1), .val (.ref b16), .val (.ref b40), .val (.ref x49), .val (.ref x60), .val (.ref x92), .val (.ref x116), .unset] [(.ref x146), (.ref b40)])) _
    have f169 := ((((((((f61.keep Kq60 (allS g_b40 all0)).wr W89 g_b16).wr W91 g_b16).keep Kq92 all0).wr W114 g_x92).wr W115 g_x92).keep Kq116 all0).keep Kq146 all0)
    have f170 := (f150.keep Kq146 nin0)
    have f171 := (f151.keep Kq146 nin0)
    have f172 := (f153.keep Kq146)
    have f173 := ((f117.keep Kq116 nin0).keep Kq146 nin0)
    have f174 := (((((((f60_9.other W89 (Or.inl (Ne.symm ne47))).other W91 (Or.inl (Ne.symm ne47))).keep Kq92 nin0).other W114 (Or.inl ne107)).other W115 (Or.inl ne107)).keep Kq116 nin0).keep Kq146 nin0)
    have f175 := (((((((f60_10.other W89 (Or.inl (Ne.symm ne47))).other W91 (Or.inl (Ne.symm ne47))).keep Kq92 nin0).other W114 (Or.inl ne107)).other W115 (Or.inl ne107)).keep Kq116 nin0).keep Kq146 nin0)
    have f176 := ((f118.keep Kq116 nin0).keep Kq146 nin0)
    obtain ⟨cq168, kq168, q168a, q168b, q168c⟩ := isOf hZ rfl f172
    obtain ⟨_, _, ⟨T168, L168, k168, n168⟩, -, X168, ⟨Lc168, hQ168, l168, y168, z168⟩, st168⟩ := X146.virtualBack hx (y := (⟨"com/example/rollhaus/rollhaus/zehntausend/Turn", "keep", "([I)V"⟩ : MethodName)) (z := (⟨"com/example/rollhaus/rollhaus/zehntausend/Turn", "keep", "([I)V"⟩ : MethodName)) hown (mvT hZ (hw _ (List.mem_of_getElem? (i := 97) rfl))) (mvT hZ (hw _ (List.mem_of_getElem? (i := 98) rfl))) (notFace_of_selects (args := #[]) (mvT hZ (hw _ (List.mem_of_getElem? (i := 100) rfl)))) (mvT hZ (hw _ (List.mem_of_getElem? (i := 100) rfl))) (mvT hZ (hw _ (List.mem_of_getElem? (i := 99) rfl))) (by decide) (backOf (W := 0) (rmke l Z a0 hw [] b40 x146 s1 s3 kS kT u60 ku60 kx146 (own_res cl).2.length [d0, d1, d2, d3, d4, d5] cl (own_res cl).2 (own_counts (own_res cl).2 own_z7) T146.heap n0 (Nat.le_trans Z0 K146.1) f169 Ssg Sth f170 f171 f172 g_b40 f173 f174 f175 f176 V146 (Ne.symm ne161) ne42 ne44 (Ne.symm ne87) rfl hd6 hcl hc7 hrem (own_clLe hc7 hc00 hrem) rfl (Nat.one_le_iff_ne_zero.mpr hg4.1) hgd.2.1 hgd.2.2.1 hg4.2.1 rfl (own_cl7 _ _ rfl) (by rw [own_remC _ _ rfl hgd.2.2.1]; exact Nat.zero_add _) hg4.2.2) hZ (hw _ (List.mem_of_getElem? (i := 101) rfl)) (hw _ (List.mem_of_getElem? (i := 8) rfl)) (by decide) (by decide)) q168a q168c (g := (mkF m 223 #[.val (.int p0), .val (.int p1), .val (.int p2), .val (.int p3), .val (.int p4), .val (.int p5), .val (.ref b1), .val (.ref b16), .val (.ref b40), .val (.ref x49), .val (.ref x60), .val (.ref x92), .val (.ref x116), .unset] [(.ref x146), (.ref b40)])) rfl (by rw [hml]; rfl) (Steps.refl _) (argsL := [(.ref x146)]) (rest := []) (lenOf pd0_6 rfl) rfl (by show 2 * 0 + _ ≤ _; exact Nat.le_of_eq rfl) (hb hby at_223) (fun _ _ => ⟨rfl, rfl, (by decide : 12 + 7 ≤ _), (by decide : 60 + 41 ≤ _)⟩)
    dsimp only [Pt.U, Pt.locs, Pt.cells, Pt.slots] at X168 l168 y168 z168 st168 hQ168
    subst y168 z168
    have X168 : Stand p l e room_1 s m #[(.int p0), (.int p1), (.int p2), (.int p3), (.int p4), (.int p5)] below meth c T168 _ 19 101 := X168
    obtain ⟨rfl, N168q, Kq168, f168_0, f168_1⟩ := hQ168
    have N168 : Fr n0 L168 := by rw [l168]; exact Fr.app N146 N168q
    have K168 : Keep h0 T168.heap [] := K146.trans Kq168 (allS (Or.inr sz_b40) all0)
    refine own_go (fun _ k => st168.trans k) ?_
    show own_Fin p.tables e below (T168.setTop (mkF m 226 #[.val (.int p0), .val (.int p1), .val (.int p2), .val (.int p3), .val (.int p4), .val (.int p5), .val (.ref b1), .val (.ref b16), .val (.ref b40), .val (.ref x49), .val (.ref x60), .val (.ref x92), .val (.ref x116), .unset] [])) _
    refine own_go (B := T168.setTop (mkF m 228 #[.val (.int p0), .val (.int p1), .val (.int p2), .val (.int p3), .val (.int p4), .val (.int p5), .val (.ref b1), .val (.ref b16), .val (.ref b40), .val (.ref x49), .val (.ref x60), .val (.ref x92), .val (.ref x116), .unset] [(.ref b40)])) (fun t k => ?_) ?_
    · show Steps p.tables e below (T168.setTop (mkF m 226 #[.val (.int p0), .val (.int p1), .val (.int p2), .val (.int p3), .val (.int p4), .val (.int p5), .val (.ref b1), .val (.ref b16), .val (.ref b40), .val (.ref x49), .val (.ref x60), .val (.ref x92), .val (.ref x116), .unset] [])) t
      refine XS.aload X168.here hx rfl (hb hby at_226) rfl rfl ?_
      exact k
    obtain ⟨cq177, kq177, q177a, q177b, q177c⟩ := isOf hZ rfl f168_0
    obtain ⟨_, _, ⟨T177, L177, k177, n177⟩, -, X177, ⟨Lc177, hQ177, l177, y177, z177⟩, st177⟩ := X168.virtualBack hx (y := (⟨"com/example/rollhaus/rollhaus/zehntausend/Turn", "thrown", "()[I"⟩ : MethodName)) (z := (⟨"com/example/rollhaus/rollhaus/zehntausend/Turn", "thrown", "()[I"⟩ : MethodName)) hown (mvT hZ (hw _ (List.mem_of_getElem? (i := 17) rfl))) (mvT hZ (hw _ (List.mem_of_getElem? (i := 18) rfl))) (notFace_of_selects (args := #[]) (mvT hZ (hw _ (List.mem_of_getElem? (i := 20) rfl)))) (mvT hZ (hw _ (List.mem_of_getElem? (i := 20) rfl))) (mvT hZ (hw _ (List.mem_of_getElem? (i := 19) rfl))) (by decide) (backOf (W := 0) (rmtn l Z a0 hw [] b40 T168.heap n0 (Nat.le_trans Z0 K168.1) f168_1) hZ (hw _ (List.mem_of_getElem? (i := 21) rfl)) (hw _ (List.mem_of_getElem? (i := 8) rfl)) (by decide) (by decide)) q177a q177c (g := (mkF m 228 #[.val (.int p0), .val (.int p1), .val (.int p2), .val (.int p3), .val (.int p4), .val (.int p5), .val (.ref b1), .val (.ref b16), .val (.ref b40), .val (.ref x49), .val (.ref x60), .val (.ref x92), .val (.ref x116), .unset] [(.ref b40)])) rfl (by rw [hml]; rfl) (Steps.refl _) (argsL := []) (rest := []) (lenOf pd0_2 rfl) rfl (by show 2 * 0 + _ ≤ _; exact Nat.le_of_eq rfl) (hb hby at_228) (fun _ _ => ⟨rfl, rfl, (by decide : 19 + 1 ≤ _), (by decide : 101 + 0 ≤ _)⟩)
    dsimp only [Pt.U, Pt.locs, Pt.cells, Pt.slots] at X177 l177 y177 z177 st177 hQ177
    subst y177 z177
    have X177 : Stand p l e room_1 s m #[(.int p0), (.int p1), (.int p2), (.int p3), (.int p4), (.int p5)] below meth c T177 _ 20 101 := X177
    have f178 := (f170.keep Kq168 (ninS ne42 nin0))
    have f179 := (f171.keep Kq168 (ninS ne44 nin0))
    have f180 := ((f140.keep Kq146 nin0).keep Kq168 (ninS ne46 nin0))
    have f181 := ((f152.keep Kq146 nin0).keep Kq168 (ninS ne47 nin0))
    have f182 := ((f154.keep Kq146).keep Kq168)
    have f183 := ((f143.keep Kq146).keep Kq168)
    have f184 := ((f149.keep Kq146).keep Kq168)
    have f185 := ((f155.keep Kq146).keep Kq168)
    have f186 := ((f156.keep Kq146).keep Kq168)
    have f187 := ((EA116.keep Kq146).keep Kq168)
    have f188 := (EA146.keep Kq168)
    obtain ⟨x177, kx177, rfl, N177q, Kq177, lt_x177, EA177, V177⟩ := hQ177
    have N177 : Fr n0 L177 := by rw [l177]; exact Fr.app N168 N177q
    have K177 : Keep h0 T177.heap [] := K168.trans Kq177 all0
    have sz_x177 : h0.size ≤ x177 := Nat.le_trans K168.1 lt_x177
    have g_x177 : n0 ≤ x177 := Nat.le_trans Z0 sz_x177
    have ne189 : s1 ≠ x177 := Nat.ne_of_lt (Nat.lt_of_lt_of_le f178.lt lt_x177)
    have ne190 : s3 ≠ x177 := Nat.ne_of_lt (Nat.lt_of_lt_of_le f179.lt lt_x177)
    have ne191 : b1 ≠ x177 := Nat.ne_of_lt (Nat.lt_of_lt_of_le f180.lt lt_x177)
    have ne192 : b16 ≠ x177 := Nat.ne_of_lt (Nat.lt_of_lt_of_le f181.lt lt_x177)
    have ne193 : b40 ≠ x177 := Nat.ne_of_lt (Nat.lt_of_lt_of_le f168_0.lt lt_x177)
    have ne194 : x49 ≠ x177 := Nat.ne_of_lt (Nat.lt_of_lt_of_le f182.lt lt_x177)
    have ne195 : x60 ≠ x177 := Nat.ne_of_lt (Nat.lt_of_lt_of_le f183.lt lt_x177)
    have ne196 : t60 ≠ x177 := Nat.ne_of_lt (Nat.lt_of_lt_of_le f184.lt lt_x177)
    have ne197 : u60 ≠ x177 := Nat.ne_of_lt (Nat.lt_of_lt_of_le f185.lt lt_x177)
    have ne198 : x92 ≠ x177 := Nat.ne_of_lt (Nat.lt_of_lt_of_le f186.lt lt_x177)
    have ne199 : x116 ≠ x177 := Nat.ne_of_lt (Nat.lt_of_lt_of_le f187.lt lt_x177)
    have ne200 : x146 ≠ x177 := Nat.ne_of_lt (Nat.lt_of_lt_of_le f188.lt lt_x177)
    have VL177 : Arv Z T177.heap x177 kx177 .int (0 : Int32) [] (.int (0 : Int32)) := V177
    refine own_go (fun _ k => st177.trans k) ?_
    show own_Fin p.tables e below (T177.setTop (mkF m 231 #[.val (.int p0), .val (.int p1), .val (.int p2), .val (.int p3), .val (.int p4), .val (.int p5), .val (.ref b1), .val (.ref b16), .val (.ref b40), .val (.ref x49), .val (.ref x60), .val (.ref x92), .val (.ref x116), .unset] [(.ref x177)])) _
    refine own_go (B := T177.setTop (mkF m 240 #[.val (.int p0), .val (.int p1), .val (.int p2), .val (.int p3), .val (.int p4), .val (.int p5), .val (.ref b1), .val (.ref b16), .val (.ref b40), .val (.ref x49), .val (.ref x60), .val (.ref x92), .val (.ref x116), .val (.ref x177)] [(.ref x177)])) (fun t k => ?_) ?_
    · show Steps p.tables e below (T177.setTop (mkF m 231 #[.val (.int p0), .val (.int p1), .val (.int p2), .val (.int p3), .val (.int p4), .val (.int p5), .val (.ref b1), .val (.ref b16), .val (.ref b40), .val (.ref x49), .val (.ref x60), .val (.ref x92), .val (.ref x116), .unset] [(.ref x177)])) t
      refine XS.astore X177.here hx rfl (hb hby at_231) rfl rfl (l' := #[.val (.int p0), .val (.int p1), .val (.int p2), .val (.int p3), .val (.int p4), .val (.int p5), .val (.ref b1), .val (.ref b16), .val (.ref b40), .val (.ref x49), .val (.ref x60), .val (.ref x92), .val (.ref x116), .val (.ref x177)]) rfl ?_
      refine XS.aload X177.here hx rfl (hb hby at_233) rfl rfl ?_
      refine XS.ifnullNo X177.here hx rfl (hb hby at_235) rfl ?_
      refine XS.aload X177.here hx rfl (hb hby at_238) rfl rfl ?_
      exact k
    obtain ⟨cl201, Ar201, -, S201, M201, -, -⟩ := id VL177
    refine own_go (B := T177.setTop (mkF m 241 #[.val (.int p0), .val (.int p1), .val (.int p2), .val (.int p3), .val (.int p4), .val (.int p5), .val (.ref b1), .val (.ref b16), .val (.ref b40), .val (.ref x49), .val (.ref x60), .val (.ref x92), .val (.ref x116), .val (.ref x177)] [(.int (0 : Int32))])) (fun t k => ?_) ?_
    · refine X177.arraylength hx (by first | exact Ar201.1 | (rw [rfl]; exact Ar201.1)) (State.isArrayOf_alike hZ.alike Ar201.2.1) (g := (mkF m 240 #[.val (.int p0), .val (.int p1), .val (.int p2), .val (.int p3), .val (.int p4), .val (.int p5), .val (.ref b1), .val (.ref b16), .val (.ref b40), .val (.ref x49), .val (.ref x60), .val (.ref x92), .val (.ref x116), .val (.ref x177)] [(.ref x177)])) rfl rfl (hb hby at_240) _ ?_
      rw [len_of S201 M201]
      exact k
    refine own_go (B := T177.setTop (mkF m 249 #[.val (.int p0), .val (.int p1), .val (.int p2), .val (.int p3), .val (.int p4), .val (.int p5), .val (.ref b1), .val (.ref b16), .val (.ref b40), .val (.ref x49), .val (.ref x60), .val (.ref x92), .val (.ref x116), .val (.ref x177)] [(.int (1 : Int32))])) (fun t k => ?_) ?_
    · show Steps p.tables e below (T177.setTop (mkF m 241 #[.val (.int p0), .val (.int p1), .val (.int p2), .val (.int p3), .val (.int p4), .val (.int p5), .val (.ref b1), .val (.ref b16), .val (.ref b40), .val (.ref x49), .val (.ref x60), .val (.ref x92), .val (.ref x116), .val (.ref x177)] [(.int (0 : Int32))])) t
      refine XS.ifNo X177.here hx rfl (hb hby at_241) rfl ((if0 _ _).trans (teq (rfl : (0 : Int32) = (0 : Int32))).2) ?_
      refine XS.iconst X177.here hx rfl (hb hby at_244) ?_
      refine XS.goto X177.here hx rfl (pc0 := 245) (pc' := 249) rfl (hb hby at_245) (by decide) (by decide) ?_
      exact k
    obtain ⟨fs, hr, hrun, hended, hW, hsame⟩ := X177.leave (v := some (.int (1 : Int32))) (fun h => by rw [Bd.returns] at h; cases h)
    refine ⟨_, _, ?_, hrun, hended, _, _, rfl, ?_, ⟨_, rfl⟩, hW, hsame.mono (by decide) (by decide)⟩
    · exact retOut X177 hx (t := .boolean) Bd.returns rfl (Or.inl ⟨rfl, by simp, _, rfl⟩) (hb hby at_249) hr
    · show Q0 Z p0 p1 p2 p3 p4 p5 s1 s3 kS kT h0 n0 _ T177.heap _
      skip
      exact ⟨rfl, N177⟩
set_option maxRecDepth 65536 in
set_option maxHeartbeats 40000000 in
theorem comes_1 {Post : Tables → Env → Array Value → State → Outcome → State → Prop} (hpost : ∀ tb e args s v u, (limb_1_1.after args s (.returned v) u = true ∧ limb_1_2.after args s (.returned v) u = true ∧ True) → FrameEnd s (.returned v) u (Jvm.fieldLocs frame_1_writes args s ++ Jvm.arrayLocs frame_1_arrays args s ++ Jvm.staticLocs frame_1_statics s) 48 320 → Post tb e args s (.returned v) u) :
    ArmFor flags0 classFile x code maxLocals ret World_1 tables_1 room_1 Calls_1 rest_1 Pre_1 Post := by
  intro l hfl _ _ p e ha hc hk s m args below hf hA hF happ hP
  obtain ⟨hcalls, hrest, hpre⟩ := hP
  obtain ⟨-, -, -, hnamed, -, -, -, hat⟩ := (Spec.applies_iff hf).mp happ
  obtain ⟨hg, hn⟩ := and_e (Cond.before_iff.mp (show (Jvm.Cond.and given_1 narrow_1).before args s = true from hpre))
  obtain ⟨hcnt, hv0⟩ := and_e hg
  obtain ⟨hk0, hv1⟩ := and_e hv0
  obtain ⟨hk1, hv2⟩ := and_e hv1
  obtain ⟨hk2, hv3⟩ := and_e hv2
  obtain ⟨hk3, hv4⟩ := and_e hv3
  obtain ⟨hk4, hv5⟩ := and_e hv4
  have hk5 := hv5
  obtain ⟨w0, w1, w2, w3, w4, w5, rfl⟩ : ∃ w0 w1 w2 w3 w4 w5 : Value, args = #[w0, w1, w2, w3, w4, w5] := by
    have hs : args.size = 6 := by simpa [Cond.value, given_1] using hcnt
    obtain ⟨L⟩ := args
    match L, hs with
    | [w0, w1, w2, w3, w4, w5], _ => exact ⟨w0, w1, w2, w3, w4, w5, rfl⟩
  have hw := fun d (hd : d ∈ tables_1) => atoms_spec (ws := Jvm.Cond.code x code maxLocals ret :: tables_1) hat d (List.mem_cons_of_mem _ hd)
  have hfit : Fit s := fun {y c} hc i hi => by
    obtain ⟨ha, rfl⟩ := Array.getElem?_eq_some_iff.mp hc
    have q := List.all_eq_true.mp ((Array.all_eq_true_iff_forall_mem.mp hF) _ (Array.getElem_mem ha)) i (List.mem_range.mpr hi)
    simpa [Array.getElem?_eq_getElem hi] using q
  obtain ⟨i0, ei0⟩ := is_v hk0
  obtain rfl : w0 = (.int i0) := Option.some.inj ei0
  obtain ⟨i1, ei1⟩ := is_v hk1
  obtain rfl : w1 = (.int i1) := Option.some.inj ei1
  obtain ⟨i2, ei2⟩ := is_v hk2
  obtain rfl : w2 = (.int i2) := Option.some.inj ei2
  obtain ⟨i3, ei3⟩ := is_v hk3
  obtain rfl : w3 = (.int i3) := Option.some.inj ei3
  obtain ⟨i4, ei4⟩ := is_v hk4
  obtain rfl : w4 = (.int i4) := Option.some.inj ei4
  obtain ⟨i5, ei5⟩ := is_v hk5
  obtain rfl : w5 = (.int i5) := Option.some.inj ei5
  obtain ⟨na, hn0⟩ := and_e hn
  obtain ⟨la, hn1⟩ := and_e hn0
  obtain ⟨nb, hn2⟩ := and_e hn1
  obtain ⟨lb, hn3⟩ := and_e hn2
  obtain ⟨ea0, hn4⟩ := and_e hn3
  obtain ⟨ea1, hn5⟩ := and_e hn4
  obtain ⟨ea2, hn6⟩ := and_e hn5
  obtain ⟨ea3, hn7⟩ := and_e hn6
  obtain ⟨ea4, hn8⟩ := and_e hn7
  obtain ⟨ea5, hn9⟩ := and_e hn8
  obtain ⟨ea6, hn10⟩ := and_e hn9
  obtain ⟨eb0, hn11⟩ := and_e hn10
  obtain ⟨eb1, hn12⟩ := and_e hn11
  obtain ⟨eb2, hn13⟩ := and_e hn12
  obtain ⟨eb3, hn14⟩ := and_e hn13
  obtain ⟨eb4, hn15⟩ := and_e hn14
  obtain ⟨eb5, hn16⟩ := and_e hn15
  have eb6 := hn16
  obtain ⟨s1, ev_s1⟩ := arr_v na
  have Ssg : Sta s s.heap "com/example/rollhaus/rollhaus/zehntausend/Scoring" "SINGLE" "[I" (.ref s1) := Sta.start ev_s1 (Or.inr ⟨(hw _ (List.mem_of_getElem? (i := 31) rfl)), (hw _ (List.mem_of_getElem? (i := 44) rfl))⟩)
  obtain ⟨cs1, As1⟩ := Arr.start ev_s1 na
  have zs1 := own_lenS (own_eqI la) ev_s1 As1.1
  have Vs1 : Arv s s.heap s1 cs1.cls .int (7 : Int32) (own_S.map own_V) (.int (0 : Int32)) := Arv.start hfit As1 zs1.1 zs1.2 (by decide) rfl ⟨(elem_in (own_eqI ea0) ev_s1 (Term.int_eval (0)) As1.1).2, (elem_in (own_eqI ea1) ev_s1 (Term.int_eval (1)) As1.1).2, (elem_in (own_eqI ea2) ev_s1 (Term.int_eval (2)) As1.1).2, (elem_in (own_eqI ea3) ev_s1 (Term.int_eval (3)) As1.1).2, (elem_in (own_eqI ea4) ev_s1 (Term.int_eval (4)) As1.1).2, (elem_in (own_eqI ea5) ev_s1 (Term.int_eval (5)) As1.1).2, (elem_in (own_eqI ea6) ev_s1 (Term.int_eval (6)) As1.1).2, trivial⟩
  obtain ⟨s3, ev_s3⟩ := arr_v nb
  have Sth : Sta s s.heap "com/example/rollhaus/rollhaus/zehntausend/Scoring" "THREE_ALIKE" "[I" (.ref s3) := Sta.start ev_s3 (Or.inr ⟨(hw _ (List.mem_of_getElem? (i := 31) rfl)), (hw _ (List.mem_of_getElem? (i := 115) rfl))⟩)
  obtain ⟨cs3, As3⟩ := Arr.start ev_s3 nb
  have zs3 := own_lenS (own_eqI lb) ev_s3 As3.1
  have Vs3 : Arv s s.heap s3 cs3.cls .int (7 : Int32) (own_T.map own_V) (.int (0 : Int32)) := Arv.start hfit As3 zs3.1 zs3.2 (by decide) rfl ⟨(elem_in (own_eqI eb0) ev_s3 (Term.int_eval (0)) As3.1).2, (elem_in (own_eqI eb1) ev_s3 (Term.int_eval (1)) As3.1).2, (elem_in (own_eqI eb2) ev_s3 (Term.int_eval (2)) As3.1).2, (elem_in (own_eqI eb3) ev_s3 (Term.int_eval (3)) As3.1).2, (elem_in (own_eqI eb4) ev_s3 (Term.int_eval (4)) As3.1).2, (elem_in (own_eqI eb5) ev_s3 (Term.int_eval (5)) As3.1).2, (elem_in (own_eqI eb6) ev_s3 (Term.int_eval (6)) As3.1).2, trivial⟩
  obtain ⟨n, o, h1, h2, h3, _, L, rfl, ⟨rfl, N⟩, hq⟩ := rm0 l s _ hw tables_1 i0 i1 i2 i3 i4 i5 s1 s3 _ _ s.heap s.heap.size (Nat.le_refl _) (Old.start s) Ssg Sth Vs1 Vs3 p e ha hc hk s m _ below hf ((Spec.applies_iff_loose hf).mp happ).1 ⟨rfl, State.Warmed39.refl s, rfl⟩ trivial
  refine ⟨n, _, h1, h2, h3, hpost _ _ _ _ _ _ ⟨Cond.after_iff.mpr rfl, Cond.after_iff.mpr (eq_i res_at (Term.int_eval (1)) rfl), trivial⟩ ⟨hq.1, hq.2.1, (hq.2.2.sift fun y hy => Or.inr (N y hy)).mono (by decide) (by decide)⟩⟩
theorem main_1_1 : Claimed_1_1 := comes_1 fun _ _ _ _ _ _ h hF => ⟨h.1, hF⟩
theorem main_1_2 : Claimed_1_2 := comes_1 fun _ _ _ _ _ _ h hF => ⟨h.2.1, hF⟩
end Jvm.Pilot.@@N@@
namespace Jvm.Pilot.@@N@@
open Jvm Jvm.ClassFile Sem Op Lib Jvm.Free Jvm.Stand Jvm.Pilot.@@N@@.Jvm.D
/-! MADE BY PROGRAM (witnessworld.py) out of the Statement's table words and the real class files: 14 classes; the members and pool entries that the words name. The judged class is class 1, her method 1. -/
namespace start1
open Jvm.ClassFile
def u (s : String) : CpInfo := .utf8 (stringToUtf16 s)
/-- a pool by its gaps: so many unusable entries, then the entry; so many at the end -/
def gap : Nat → List CpInfo → List CpInfo
  | 0, r => r
  | n + 1, r => .unusable :: gap n r
def poolList (es : List (Nat × CpInfo)) (last : Nat) : List CpInfo := es.foldr (fun e r => gap e.1 (e.2 :: r)) (gap last [])
def pool (es : List (Nat × CpInfo)) (last : Nat) : Array CpInfo := ⟨poolList es last⟩
def fileOf (pool : Array CpInfo) (this : Nat) (attrs : Array Attribute := #[]) (ms : Array MethodInfo := #[]) (fl : Nat := 33) (sup : Nat := 0) (ifs : Array Nat := #[]) (fds : Array FieldInfo := #[]) : ClassFile where
  minorVersion := 0
  majorVersion := 65
  constantPool := pool
  accessFlags := fl
  thisClass := this
  superClass := sup
  interfaces := ifs
  fields := fds
  methods := ms
  attributes := attrs
def plain (name : String) (sup : Option ClassId) : Class where
  name := name
  kind := .ordinary
  loader := none
  accessFlags := 33
  super := sup
  interfaces := #[]
  cf := none
  fields := #[]
  methods := #[]
  instanceTypes := #[]
  staticTypes := #[]
  resolved := #[]
  callSites := []
  init := .initialized
  statics := none
  mirror := none

def pool0 : Array CpInfo := pool [(5, u "<init>"), (0, u "()V"), (1, .class_ 10), (1, u "java/lang/Object"), (85, u "clone"), (0, u "()Ljava/lang/Object;")] 26

def k0c0 : Code := { maxStack := 0, maxLocals := 1, code := object_method_1_code, exceptionTable := #[], attributes := #[] }
def k0m0 : Method := { name := "<init>", desc := "()V", sig := { parameters := [], returnType := none }, accessFlags := 1, code := some k0c0 }
def k0m1 : Method := { name := "clone", desc := "()Ljava/lang/Object;", sig := { parameters := [], returnType := some (.object "java/lang/Object") }, accessFlags := 260, code := none }
/-- java/lang/Object -/
def k0 : Class := { plain "java/lang/Object" none with
  accessFlags := 33
  interfaces := #[]
  cf := some (fileOf pool0 8 #[] #[{ accessFlags := 1, nameIndex := 5, descriptorIndex := 6, attributes := #[] }, { accessFlags := 260, nameIndex := 96, descriptorIndex := 97, attributes := #[] }] 33 0 #[] #[])
  fields := #[]
  methods := #[k0m0, k0m1]
  instanceTypes := #[]
  staticTypes := #[]
  resolved := Array.replicate 124 none
  statics := none }

def pool1 : Array CpInfo := pool [(2, .class_ 4), (0, .nameAndType 5 6), (0, u "java/lang/Object"), (0, u "<init>"), (0, u "()V"), (0, .methodref 8 9), (0, .class_ 10), (0, .nameAndType 11 12), (0, u "com/example/rollhaus/rollhaus/zehntausend/TurnThrownPinLaw"), (0, u "face"), (0, u "(I)I"), (0, .class_ 14), (0, u "com/example/rollhaus/rollhaus/zehntausend/Turn"), (0, .methodref 13 3), (0, .methodref 13 17), (0, .nameAndType 18 19), (0, u "thrown"), (0, u "()[I"), (0, .methodref 13 21), (0, .nameAndType 22 23), (0, u "roll"), (0, u "([I)Lcom/example/rollhaus/rollhaus/zehntausend/Scoring;"), (0, .methodref 8 25), (0, .nameAndType 26 27), (0, u "same"), (0, u "([I[I)Z"), (0, .methodref 29 30), (0, .class_ 31), (0, .nameAndType 32 33), (0, u "com/example/rollhaus/rollhaus/zehntausend/Scoring"), (0, u "points"), (0, u "()I"), (0, .methodref 29 35), (0, .nameAndType 36 19), (0, u "dice"), (0, .methodref 13 38), (0, .nameAndType 39 40), (0, u "keep"), (0, u "([I)V"), (0, .integer 2147483647), (2, u "law"), (0, u "(IIIIII)Z")] 5

def k1m0 : Method := { name := "<init>", desc := "()V", sig := { parameters := [], returnType := none }, accessFlags := 1, code := none }
def k1c1 : Code := { maxStack := 4, maxLocals := 14, code := code, exceptionTable := #[], attributes := #[] }
def k1m1 : Method := { name := "law", desc := "(IIIIII)Z", sig := { parameters := [.int, .int, .int, .int, .int, .int], returnType := some .boolean }, accessFlags := 9, code := some k1c1 }
def k1c2 : Code := { maxStack := 2, maxLocals := 1, code := method_3_code, exceptionTable := #[], attributes := #[] }
def k1m2 : Method := { name := "face", desc := "(I)I", sig := { parameters := [.int], returnType := some .int }, accessFlags := 10, code := some k1c2 }
def k1c3 : Code := { maxStack := 3, maxLocals := 2, code := method_4_code, exceptionTable := #[], attributes := #[] }
def k1m3 : Method := { name := "same", desc := "([I[I)Z", sig := { parameters := [(.array .int), (.array .int)], returnType := some .boolean }, accessFlags := 10, code := some k1c3 }
/-- com/example/rollhaus/rollhaus/zehntausend/TurnThrownPinLaw -/
def k1 : Class := { plain "com/example/rollhaus/rollhaus/zehntausend/TurnThrownPinLaw" (some 0) with
  accessFlags := 49
  interfaces := #[]
  cf := some (fileOf pool1 8 #[] #[{ accessFlags := 1, nameIndex := 5, descriptorIndex := 6, attributes := #[] }, { accessFlags := 9, nameIndex := 44, descriptorIndex := 45, attributes := #[] }, { accessFlags := 10, nameIndex := 11, descriptorIndex := 12, attributes := #[] }, { accessFlags := 10, nameIndex := 26, descriptorIndex := 27, attributes := #[] }] 49 2 #[] #[])
  fields := #[]
  methods := #[k1m0, k1m1, k1m2, k1m3]
  instanceTypes := #[]
  staticTypes := #[]
  resolved := Array.replicate 51 none
  statics := none }

def pool2 : Array CpInfo := pool [(1, .methodref 2 3), (0, .class_ 4), (0, .nameAndType 5 6), (0, u "java/lang/Object"), (0, u "<init>"), (0, u "()V"), (0, .class_ 8), (0, u "com/example/rollhaus/rollhaus/zehntausend/Scoring"), (0, .fieldref 10 11), (0, .class_ 12), (0, .nameAndType 13 14), (0, u "com/example/rollhaus/rollhaus/zehntausend/Turn"), (0, u "left"), (0, u "I"), (0, .fieldref 10 16), (0, .nameAndType 17 18), (0, u "thrown"), (0, u "[I"), (8, .class_ 29), (1, u "com/example/rollhaus/rollhaus/dice/Faces"), (10, .methodref 7 41), (0, .nameAndType 42 43), (0, u "of"), (0, u "([I)Lcom/example/rollhaus/rollhaus/zehntausend/Scoring;"), (0, .methodref 45 46), (0, .class_ 18), (0, .nameAndType 47 48), (0, u "clone"), (0, u "()Ljava/lang/Object;"), (4, .methodref 27 54), (0, .nameAndType 55 56), (0, u "counts"), (0, u "([I)[I"), (0, .methodref 27 58), (0, .nameAndType 59 60), (0, u "among"), (0, u "([I[I)Z"), (5, .methodref 7 67), (0, .nameAndType 68 69), (0, u "dice"), (0, u "()[I"), (3, .fieldref 10 74), (0, .nameAndType 75 14), (0, u "points"), (0, .methodref 7 77), (0, .nameAndType 75 78), (0, u "()I"), (3, u "roll"), (3, u "keep"), (0, u "([I)V")] 30

def k2c0 : Code := { maxStack := 2, maxLocals := 1, code := prog_53_method_1_code, exceptionTable := #[], attributes := #[] }
def k2m0 : Method := { name := "<init>", desc := "()V", sig := { parameters := [], returnType := none }, accessFlags := 0, code := some k2c0 }
def k2c1 : Code := { maxStack := 4, maxLocals := 3, code := prog_53_method_2_code, exceptionTable := #[], attributes := #[] }
def k2m1 : Method := { name := "roll", desc := "([I)Lcom/example/rollhaus/rollhaus/zehntausend/Scoring;", sig := { parameters := [(.array .int)], returnType := some (.object "com/example/rollhaus/rollhaus/zehntausend/Scoring") }, accessFlags := 128, code := some k2c1 }
def k2c2 : Code := { maxStack := 4, maxLocals := 4, code := prog_53_method_3_code, exceptionTable := #[], attributes := #[] }
def k2m2 : Method := { name := "keep", desc := "([I)V", sig := { parameters := [(.array .int)], returnType := none }, accessFlags := 128, code := some k2c2 }
def k2c3 : Code := { maxStack := 1, maxLocals := 1, code := prog_53_method_8_code, exceptionTable := #[], attributes := #[] }
def k2m3 : Method := { name := "thrown", desc := "()[I", sig := { parameters := [], returnType := some (.array .int) }, accessFlags := 0, code := some k2c3 }
/-- com/example/rollhaus/rollhaus/zehntausend/Turn -/
def k2 : Class := { plain "com/example/rollhaus/rollhaus/zehntausend/Turn" (some 0) with
  accessFlags := 48
  interfaces := #[]
  cf := some (fileOf pool2 10 #[] #[{ accessFlags := 0, nameIndex := 5, descriptorIndex := 6, attributes := #[] }, { accessFlags := 128, nameIndex := 82, descriptorIndex := 43, attributes := #[] }, { accessFlags := 128, nameIndex := 86, descriptorIndex := 87, attributes := #[] }, { accessFlags := 0, nameIndex := 17, descriptorIndex := 69, attributes := #[] }] 48 2 #[] #[{ accessFlags := 2, nameIndex := 75, descriptorIndex := 14, attributes := #[] }, { accessFlags := 2, nameIndex := 13, descriptorIndex := 14, attributes := #[] }, { accessFlags := 2, nameIndex := 17, descriptorIndex := 18, attributes := #[] }])
  fields := #[{ name := "points", type := .int, accessFlags := 2, slot := 0, constantValue := 0 }, { name := "left", type := .int, accessFlags := 2, slot := 1, constantValue := 0 }, { name := "thrown", type := (.array .int), accessFlags := 2, slot := 2, constantValue := 0 }]
  methods := #[k2m0, k2m1, k2m2, k2m3]
  instanceTypes := #[.int, .int, (.array .int)]
  staticTypes := #[]
  resolved := Array.replicate 118 none
  statics := none }

def pool3 : Array CpInfo := pool [(1, .methodref 2 3), (0, .class_ 4), (0, .nameAndType 5 6), (0, u "java/lang/Object"), (0, u "<init>"), (0, u "()V"), (0, .fieldref 8 9), (0, .class_ 10), (0, .nameAndType 11 12), (0, u "com/example/rollhaus/rollhaus/zehntausend/Scoring"), (0, u "points"), (0, u "I"), (0, .fieldref 8 14), (0, .nameAndType 15 16), (0, u "dice"), (0, u "[I"), (9, .methodref 27 28), (0, .class_ 29), (0, .nameAndType 30 31), (0, u "com/example/rollhaus/rollhaus/dice/Faces"), (0, u "counts"), (0, u "([I)[I"), (2, .methodref 8 35), (0, .nameAndType 36 37), (0, u "value"), (0, u "(II)I"), (0, .methodref 39 40), (0, .class_ 41), (0, .nameAndType 42 43), (0, u "java/util/Arrays"), (0, u "fill"), (0, u "([IIII)V"), (0, .methodref 39 45), (0, .nameAndType 46 47), (0, u "copyOf"), (0, u "([II)[I"), (0, .methodref 8 49), (0, .nameAndType 5 50), (0, u "(I[I)V"), (0, .fieldref 8 52), (0, .nameAndType 53 16), (0, u "THREE_ALIKE"), (0, .fieldref 8 55), (0, .nameAndType 56 16), (0, u "SINGLE"), (0, .methodref 58 59), (0, .class_ 16), (0, .nameAndType 60 61), (0, u "clone"), (0, u "()Ljava/lang/Object;"), (0, u "DICE"), (2, u "PASCH"), (3, u "of"), (0, u "([I)Lcom/example/rollhaus/rollhaus/zehntausend/Scoring;"), (1, u "()I"), (0, u "()[I")] 20

def k3c0 : Code := { maxStack := 2, maxLocals := 3, code := prog_52_method_1_code, exceptionTable := #[], attributes := #[] }
def k3m0 : Method := { name := "<init>", desc := "(I[I)V", sig := { parameters := [.int, (.array .int)], returnType := none }, accessFlags := 2, code := some k3c0 }
def k3c1 : Code := { maxStack := 5, maxLocals := 7, code := prog_52_method_2_code, exceptionTable := #[], attributes := #[] }
def k3m1 : Method := { name := "of", desc := "([I)Lcom/example/rollhaus/rollhaus/zehntausend/Scoring;", sig := { parameters := [(.array .int)], returnType := some (.object "com/example/rollhaus/rollhaus/zehntausend/Scoring") }, accessFlags := 137, code := some k3c1 }
def k3c2 : Code := { maxStack := 3, maxLocals := 2, code := prog_52_method_3_code, exceptionTable := #[], attributes := #[] }
def k3m2 : Method := { name := "value", desc := "(II)I", sig := { parameters := [.int, .int], returnType := some .int }, accessFlags := 10, code := some k3c2 }
def k3c3 : Code := { maxStack := 1, maxLocals := 1, code := prog_52_method_4_code, exceptionTable := #[], attributes := #[] }
def k3m3 : Method := { name := "points", desc := "()I", sig := { parameters := [], returnType := some .int }, accessFlags := 1, code := some k3c3 }
def k3c4 : Code := { maxStack := 1, maxLocals := 1, code := prog_52_method_5_code, exceptionTable := #[], attributes := #[] }
def k3m4 : Method := { name := "dice", desc := "()[I", sig := { parameters := [], returnType := some (.array .int) }, accessFlags := 1, code := some k3c4 }
/-- com/example/rollhaus/rollhaus/zehntausend/Scoring -/
def k3 : Class := { plain "com/example/rollhaus/rollhaus/zehntausend/Scoring" (some 0) with
  accessFlags := 49
  interfaces := #[]
  cf := some (fileOf pool3 8 #[] #[{ accessFlags := 2, nameIndex := 5, descriptorIndex := 50, attributes := #[] }, { accessFlags := 137, nameIndex := 69, descriptorIndex := 70, attributes := #[] }, { accessFlags := 10, nameIndex := 36, descriptorIndex := 37, attributes := #[] }, { accessFlags := 1, nameIndex := 11, descriptorIndex := 72, attributes := #[] }, { accessFlags := 1, nameIndex := 15, descriptorIndex := 73, attributes := #[] }] 49 2 #[] #[{ accessFlags := 25, nameIndex := 62, descriptorIndex := 12, attributes := #[] }, { accessFlags := 26, nameIndex := 65, descriptorIndex := 12, attributes := #[] }, { accessFlags := 26, nameIndex := 56, descriptorIndex := 16, attributes := #[] }, { accessFlags := 26, nameIndex := 53, descriptorIndex := 16, attributes := #[] }, { accessFlags := 18, nameIndex := 11, descriptorIndex := 12, attributes := #[] }, { accessFlags := 18, nameIndex := 15, descriptorIndex := 16, attributes := #[] }])
  fields := #[{ name := "DICE", type := .int, accessFlags := 25, slot := 0, constantValue := 0 }, { name := "PASCH", type := .int, accessFlags := 26, slot := 1, constantValue := 0 }, { name := "SINGLE", type := (.array .int), accessFlags := 26, slot := 2, constantValue := 0 }, { name := "THREE_ALIKE", type := (.array .int), accessFlags := 26, slot := 3, constantValue := 0 }, { name := "points", type := .int, accessFlags := 18, slot := 0, constantValue := 0 }, { name := "dice", type := (.array .int), accessFlags := 18, slot := 1, constantValue := 0 }]
  methods := #[k3m0, k3m1, k3m2, k3m3, k3m4]
  instanceTypes := #[.int, (.array .int)]
  staticTypes := #[.int, .int, (.array .int), (.array .int)]
  resolved := Array.replicate 94 none
  statics := some 0 }

def pool4 : Array CpInfo := pool [(2, .class_ 4), (1, u "java/lang/Object"), (0, u "<init>"), (0, u "()V"), (11, .methodref 19 20), (0, .class_ 21), (0, .nameAndType 22 23), (0, u "com/example/rollhaus/rollhaus/dice/Faces"), (0, u "checked"), (0, u "(I)I"), (0, .methodref 25 26), (0, .class_ 27), (0, .nameAndType 28 29), (0, u "[I"), (0, u "clone"), (0, u "()Ljava/lang/Object;"), (51, u "counts"), (0, u "([I)[I"), (0, u "among"), (0, u "([I[I)Z")] 27

def k4m0 : Method := { name := "<init>", desc := "()V", sig := { parameters := [], returnType := none }, accessFlags := 2, code := none }
def k4c1 : Code := { maxStack := 3, maxLocals := 1, code := prog_26_method_2_code, exceptionTable := #[], attributes := #[] }
def k4m1 : Method := { name := "checked", desc := "(I)I", sig := { parameters := [.int], returnType := some .int }, accessFlags := 9, code := some k4c1 }
def k4c2 : Code := { maxStack := 4, maxLocals := 6, code := prog_26_method_3_code, exceptionTable := #[], attributes := #[] }
def k4m2 : Method := { name := "counts", desc := "([I)[I", sig := { parameters := [(.array .int)], returnType := some (.array .int) }, accessFlags := 137, code := some k4c2 }
def k4c3 : Code := { maxStack := 4, maxLocals := 7, code := prog_26_method_4_code, exceptionTable := #[], attributes := #[] }
def k4m3 : Method := { name := "among", desc := "([I[I)Z", sig := { parameters := [(.array .int), (.array .int)], returnType := some .boolean }, accessFlags := 9, code := some k4c3 }
/-- com/example/rollhaus/rollhaus/dice/Faces -/
def k4 : Class := { plain "com/example/rollhaus/rollhaus/dice/Faces" (some 0) with
  accessFlags := 49
  interfaces := #[]
  cf := some (fileOf pool4 19 #[] #[{ accessFlags := 2, nameIndex := 5, descriptorIndex := 6, attributes := #[] }, { accessFlags := 9, nameIndex := 22, descriptorIndex := 23, attributes := #[] }, { accessFlags := 137, nameIndex := 81, descriptorIndex := 82, attributes := #[] }, { accessFlags := 9, nameIndex := 83, descriptorIndex := 84, attributes := #[] }] 49 2 #[] #[])
  fields := #[]
  methods := #[k4m0, k4m1, k4m2, k4m3]
  instanceTypes := #[]
  staticTypes := #[]
  resolved := Array.replicate 112 none
  statics := none }

def pool5 : Array CpInfo := pool [(2, .class_ 4), (1, u "java/lang/Object"), (0, u "<init>"), (0, u "()V"), (5, u "([IIII)V"), (0, .methodref 14 15), (0, .class_ 16), (0, .nameAndType 17 18), (0, u "java/util/Arrays"), (0, u "rangeCheck"), (0, u "(III)V"), (55, .class_ 76), (1, u "java/util/Arrays$NaturalOrder"), (32, u "()Ljava/lang/Object;"), (3, .class_ 115), (1, u "java/util/Arrays$LegacyMergeSort"), (1, u "Z"), (10, .nameAndType 129 109), (0, u "clone"), (20, .methodref 151 152), (0, .class_ 153), (0, .nameAndType 154 155), (0, u "java/lang/System"), (0, u "arraycopy"), (0, u "(Ljava/lang/Object;ILjava/lang/Object;II)V"), (146, u "copyOf"), (1, .methodref 305 306), (0, .class_ 307), (0, .nameAndType 308 309), (0, u "java/lang/Math"), (0, u "min"), (0, u "(II)I"), (6, .methodref 317 128), (0, .class_ 318), (0, u "[I"), (56, .class_ 376), (0, u "java/util/Arrays$ArrayList"), (68, u "$assertionsDisabled"), (269, u "MIN_ARRAY_SORT_GRAN"), (0, u "I"), (2, u "INSERTIONSORT_THRESHOLD"), (120, u "fill"), (30, u "([II)[I"), (103, .class_ 976), (0, u "java/util/Arrays$ArrayItr")] 52

def k5m0 : Method := { name := "<init>", desc := "()V", sig := { parameters := [], returnType := none }, accessFlags := 2, code := none }
def k5c1 : Code := { maxStack := 4, maxLocals := 3, code := jdk_65_method_30_code, exceptionTable := #[], attributes := #[] }
def k5m1 : Method := { name := "rangeCheck", desc := "(III)V", sig := { parameters := [.int, .int, .int], returnType := none }, accessFlags := 8, code := some k5c1 }
def k5c2 : Code := { maxStack := 3, maxLocals := 5, code := jdk_65_method_104_code, exceptionTable := #[], attributes := #[] }
def k5m2 : Method := { name := "fill", desc := "([IIII)V", sig := { parameters := [(.array .int), .int, .int, .int], returnType := none }, accessFlags := 9, code := some k5c2 }
def k5c3 : Code := { maxStack := 6, maxLocals := 3, code := jdk_65_method_123_code, exceptionTable := #[], attributes := #[] }
def k5m3 : Method := { name := "copyOf", desc := "([II)[I", sig := { parameters := [(.array .int), .int], returnType := some (.array .int) }, accessFlags := 9, code := some k5c3 }
/-- java/util/Arrays -/
def k5 : Class := { plain "java/util/Arrays" (some 0) with
  accessFlags := 49
  interfaces := #[]
  cf := some (fileOf pool5 14 #[.nestMembers #[975, 375, 113, 74]] #[{ accessFlags := 2, nameIndex := 5, descriptorIndex := 6, attributes := #[] }, { accessFlags := 8, nameIndex := 17, descriptorIndex := 18, attributes := #[] }, { accessFlags := 9, nameIndex := 840, descriptorIndex := 12, attributes := #[] }, { accessFlags := 9, nameIndex := 302, descriptorIndex := 871, attributes := #[] }] 49 2 #[] #[{ accessFlags := 26, nameIndex := 715, descriptorIndex := 716, attributes := #[] }, { accessFlags := 26, nameIndex := 719, descriptorIndex := 716, attributes := #[] }, { accessFlags := 4120, nameIndex := 445, descriptorIndex := 117, attributes := #[] }])
  fields := #[{ name := "MIN_ARRAY_SORT_GRAN", type := .int, accessFlags := 26, slot := 0, constantValue := 0 }, { name := "INSERTIONSORT_THRESHOLD", type := .int, accessFlags := 26, slot := 1, constantValue := 0 }, { name := "$assertionsDisabled", type := .boolean, accessFlags := 4120, slot := 2, constantValue := 0 }]
  methods := #[k5m0, k5m1, k5m2, k5m3]
  instanceTypes := #[]
  staticTypes := #[.int, .int, .boolean]
  resolved := Array.replicate 1029 none
  statics := none }

def pool6 : Array CpInfo := pool [(1, .class_ 2), (0, u "java/lang/Math"), (1, .class_ 6), (1, u "java/lang/Object"), (0, u "<init>"), (0, u "()V"), (89, .class_ 100), (1, u "java/lang/Math$RandomNumberGeneratorHolder"), (71, u "negativeZeroFloatBits"), (0, u "J"), (2, u "negativeZeroDoubleBits"), (24, u "min"), (43, u "$assertionsDisabled"), (0, u "Z"), (88, u "(II)I"), (2, u "twoToTheDoubleScaleDown"), (0, u "D"), (4, u "twoToTheDoubleScaleUp"), (9, u "E"), (3, u "PI"), (2, u "TAU"), (2, u "DEGREES_TO_RADIANS"), (0, u "RADIANS_TO_DEGREES")] 94

def k6m0 : Method := { name := "<init>", desc := "()V", sig := { parameters := [], returnType := none }, accessFlags := 2, code := none }
def k6c1 : Code := { maxStack := 2, maxLocals := 2, code := jdk_29_method_69_code, exceptionTable := #[], attributes := #[] }
def k6m1 : Method := { name := "min", desc := "(II)I", sig := { parameters := [.int, .int], returnType := some .int }, accessFlags := 9, code := some k6c1 }
/-- java/lang/Math -/
def k6 : Class := { plain "java/lang/Math" (some 0) with
  accessFlags := 49
  interfaces := #[]
  cf := some (fileOf pool6 1 #[.nestMembers #[98]] #[{ accessFlags := 2, nameIndex := 7, descriptorIndex := 8, attributes := #[] }, { accessFlags := 9, nameIndex := 201, descriptorIndex := 335, attributes := #[] }] 49 4 #[] #[{ accessFlags := 25, nameIndex := 354, descriptorIndex := 339, attributes := #[] }, { accessFlags := 25, nameIndex := 358, descriptorIndex := 339, attributes := #[] }, { accessFlags := 25, nameIndex := 361, descriptorIndex := 339, attributes := #[] }, { accessFlags := 26, nameIndex := 364, descriptorIndex := 339, attributes := #[] }, { accessFlags := 26, nameIndex := 365, descriptorIndex := 339, attributes := #[] }, { accessFlags := 26, nameIndex := 172, descriptorIndex := 173, attributes := #[] }, { accessFlags := 26, nameIndex := 176, descriptorIndex := 173, attributes := #[] }, { accessFlags := 8, nameIndex := 344, descriptorIndex := 339, attributes := #[] }, { accessFlags := 8, nameIndex := 338, descriptorIndex := 339, attributes := #[] }, { accessFlags := 4120, nameIndex := 245, descriptorIndex := 246, attributes := #[] }])
  fields := #[{ name := "E", type := .double, accessFlags := 25, slot := 0, constantValue := 0 }, { name := "PI", type := .double, accessFlags := 25, slot := 1, constantValue := 0 }, { name := "TAU", type := .double, accessFlags := 25, slot := 2, constantValue := 0 }, { name := "DEGREES_TO_RADIANS", type := .double, accessFlags := 26, slot := 3, constantValue := 0 }, { name := "RADIANS_TO_DEGREES", type := .double, accessFlags := 26, slot := 4, constantValue := 0 }, { name := "negativeZeroFloatBits", type := .long, accessFlags := 26, slot := 5, constantValue := 0 }, { name := "negativeZeroDoubleBits", type := .long, accessFlags := 26, slot := 6, constantValue := 0 }, { name := "twoToTheDoubleScaleUp", type := .double, accessFlags := 8, slot := 7, constantValue := 0 }, { name := "twoToTheDoubleScaleDown", type := .double, accessFlags := 8, slot := 8, constantValue := 0 }, { name := "$assertionsDisabled", type := .boolean, accessFlags := 4120, slot := 9, constantValue := 0 }]
  methods := #[k6m0, k6m1]
  instanceTypes := #[]
  staticTypes := #[.double, .double, .double, .double, .double, .long, .long, .double, .double, .boolean]
  resolved := Array.replicate 460 none
  statics := none }

def pool7 : Array CpInfo := pool [(2, .class_ 4), (1, u "java/lang/Object"), (0, u "<init>"), (0, u "()V"), (1, .class_ 10), (1, u "java/lang/System"), (0, u "allowSecurityManager"), (0, u "I"), (16, u "cons"), (0, u "Ljava/io/Console;"), (77, .class_ 110), (1, u "java/lang/System$CallersHolder"), (43, u "initialErrStream"), (0, u "Ljava/io/PrintStream;"), (19, u "security"), (0, u "Ljava/lang/SecurityManager;"), (31, .class_ 209), (0, u "java/lang/System$1"), (7, u "props"), (0, u "Ljava/util/Properties;"), (2, u "lineSeparator"), (0, u "Ljava/lang/String;"), (96, .class_ 321), (1, u "java/lang/System$LoggerFinder"), (5, .class_ 328), (0, u "java/lang/System$Logger"), (67, u "err"), (2, u "out"), (91, u "notSupportedJnuEncoding"), (15, u "in"), (17, u "initialIn"), (0, u "Ljava/io/InputStream;"), (35, u "bootLayer"), (0, u "Ljava/lang/ModuleLayer;"), (99, .class_ 664), (0, u "java/lang/System$2"), (9, u "NEVER"), (2, u "MAYBE"), (49, u "arraycopy"), (0, u "(Ljava/lang/Object;ILjava/lang/Object;II)V"), (72, .class_ 802), (0, u "java/lang/System$Logger$Level")] 31

def k7m0 : Method := { name := "<init>", desc := "()V", sig := { parameters := [], returnType := none }, accessFlags := 2, code := none }
def k7m1 : Method := { name := "arraycopy", desc := "(Ljava/lang/Object;ILjava/lang/Object;II)V", sig := { parameters := [(.object "java/lang/Object"), .int, (.object "java/lang/Object"), .int, .int], returnType := none }, accessFlags := 265, code := none }
/-- java/lang/System -/
def k7 : Class := { plain "java/lang/System" (some 0) with
  accessFlags := 49
  interfaces := #[]
  cf := some (fileOf pool7 8 #[.nestMembers #[319, 327, 801, 108, 663, 208]] #[{ accessFlags := 2, nameIndex := 5, descriptorIndex := 6, attributes := #[] }, { accessFlags := 265, nameIndex := 727, descriptorIndex := 728, attributes := #[] }] 49 2 #[] #[{ accessFlags := 25, nameIndex := 507, descriptorIndex := 526, attributes := #[] }, { accessFlags := 25, nameIndex := 399, descriptorIndex := 155, attributes := #[] }, { accessFlags := 25, nameIndex := 396, descriptorIndex := 155, attributes := #[] }, { accessFlags := 10, nameIndex := 525, descriptorIndex := 526, attributes := #[] }, { accessFlags := 26, nameIndex := 674, descriptorIndex := 12, attributes := #[] }, { accessFlags := 26, nameIndex := 677, descriptorIndex := 12, attributes := #[] }, { accessFlags := 10, nameIndex := 11, descriptorIndex := 12, attributes := #[] }, { accessFlags := 74, nameIndex := 175, descriptorIndex := 176, attributes := #[] }, { accessFlags := 10, nameIndex := 491, descriptorIndex := 222, attributes := #[] }, { accessFlags := 74, nameIndex := 29, descriptorIndex := 30, attributes := #[] }, { accessFlags := 74, nameIndex := 154, descriptorIndex := 155, attributes := #[] }, { accessFlags := 10, nameIndex := 217, descriptorIndex := 218, attributes := #[] }, { accessFlags := 10, nameIndex := 221, descriptorIndex := 222, attributes := #[] }, { accessFlags := 8, nameIndex := 562, descriptorIndex := 563, attributes := #[] }])
  fields := #[{ name := "in", type := (.object "java/io/InputStream"), accessFlags := 25, slot := 0, constantValue := 0 }, { name := "out", type := (.object "java/io/PrintStream"), accessFlags := 25, slot := 1, constantValue := 0 }, { name := "err", type := (.object "java/io/PrintStream"), accessFlags := 25, slot := 2, constantValue := 0 }, { name := "initialIn", type := (.object "java/io/InputStream"), accessFlags := 10, slot := 3, constantValue := 0 }, { name := "NEVER", type := .int, accessFlags := 26, slot := 4, constantValue := 0 }, { name := "MAYBE", type := .int, accessFlags := 26, slot := 5, constantValue := 0 }, { name := "allowSecurityManager", type := .int, accessFlags := 10, slot := 6, constantValue := 0 }, { name := "security", type := (.object "java/lang/SecurityManager"), accessFlags := 74, slot := 7, constantValue := 0 }, { name := "notSupportedJnuEncoding", type := (.object "java/lang/String"), accessFlags := 10, slot := 8, constantValue := 0 }, { name := "cons", type := (.object "java/io/Console"), accessFlags := 74, slot := 9, constantValue := 0 }, { name := "initialErrStream", type := (.object "java/io/PrintStream"), accessFlags := 74, slot := 10, constantValue := 0 }, { name := "props", type := (.object "java/util/Properties"), accessFlags := 10, slot := 11, constantValue := 0 }, { name := "lineSeparator", type := (.object "java/lang/String"), accessFlags := 10, slot := 12, constantValue := 0 }, { name := "bootLayer", type := (.object "java/lang/ModuleLayer"), accessFlags := 8, slot := 13, constantValue := 0 }]
  methods := #[k7m0, k7m1]
  instanceTypes := #[]
  staticTypes := #[(.object "java/io/InputStream"), (.object "java/io/PrintStream"), (.object "java/io/PrintStream"), (.object "java/io/InputStream"), .int, .int, .int, (.object "java/lang/SecurityManager"), (.object "java/lang/String"), (.object "java/io/Console"), (.object "java/io/PrintStream"), (.object "java/util/Properties"), (.object "java/lang/String"), (.object "java/lang/ModuleLayer")]
  resolved := Array.replicate 834 none
  statics := none }

def pool8 : Array CpInfo := pool [(1, .class_ 2), (0, u "java/lang/Cloneable"), (0, .class_ 4), (0, u "java/lang/Object")] 2

/-- java/lang/Cloneable -/
def k8 : Class := { plain "java/lang/Cloneable" (some 0) with
  accessFlags := 1537
  interfaces := #[]
  cf := some (fileOf pool8 1 #[] #[] 1537 3 #[] #[])
  fields := #[]
  methods := #[]
  instanceTypes := #[]
  staticTypes := #[]
  resolved := Array.replicate 7 none
  statics := none }

def pool9 : Array CpInfo := pool [(1, u "java/io/Serializable"), (0, .class_ 1), (0, u "java/lang/Object"), (0, .class_ 3)] 3

/-- java/io/Serializable -/
def k9 : Class := { plain "java/io/Serializable" (some 0) with
  accessFlags := 1537
  interfaces := #[]
  cf := some (fileOf pool9 2 #[] #[] 1537 4 #[] #[])
  fields := #[]
  methods := #[]
  instanceTypes := #[]
  staticTypes := #[]
  resolved := Array.replicate 8 none
  statics := none }

/-- the primitive byte -/
def k10 : Class := { plain "byte" none with kind := .primitive 'B', accessFlags := 0x411 }
/-- [B -/
def k11 : Class := { plain "[B" (some 0) with kind := .array 10 .byte, interfaces := #[8, 9], accessFlags := 1041 }

/-- the primitive int -/
def k12 : Class := { plain "int" none with kind := .primitive 'I', accessFlags := 0x411 }
/-- [I -/
def k13 : Class := { plain "[I" (some 0) with kind := .array 12 .int, interfaces := #[8, 9], accessFlags := 1041 }

def heap : Heap := #[{ cls := 3, slots := #[.int 0, .int 0, .ref 1, .ref 2], vm := .statics 3 },
  { cls := 13, slots := #[.int 0, .int 100, .int 0, .int 0, .int 0, .int 50, .int 0], vm := .none },
  { cls := 13, slots := #[.int 0, .int 1000, .int 200, .int 300, .int 400, .int 500, .int 600], vm := .none }]
def classes : Array Class := #[k0, k1, k2, k3, k4, k5, k6, k7, k8, k9, k10, k11, k12, k13]
def interned : List (Array UInt16 × Addr) := []
def slotsUsed : Nat := 18
def theMethod : MethodId := ⟨1, 1⟩
def args0 : Array Value := #[.int 1, .int 2, .int 3, .int 4, .int 5, .int 6]
def aboutOver (below : List Frame) : State where
  vm := { classes := classes, interned := interned.toArray }
  heap := heap
  slotsUsed := slotsUsed
  threads := #[{ frames := .invoking theMethod args0 :: below }]
def below0 : List Frame := [.native { method := ⟨0, 0⟩, args := #[] }]
def about1 : State := aboutOver below0
def p0 : Program := .bare "" "" ""
def e0 : Env := launch0.env 0 0 0
theorem w_frames : about1.frames = Frame.invoking theMethod args0 :: below0 := rfl
set_option maxRecDepth 65536 in
theorem w_args : argsFit about1.vm theMethod args0 = true := by decide +kernel
set_option maxRecDepth 65536 in
theorem w_heap : heapFits about1 = true := by decide +kernel
set_option maxRecDepth 65536 in
theorem w_runnable : about1.curStatus? = some .runnable := by decide +kernel
set_option maxRecDepth 65536 in
theorem w_alone : about1.alone = true := by decide +kernel
set_option maxRecDepth 65536 in
theorem w_named : about1.methodNamed? x = some theMethod := by decide +kernel
set_option maxRecDepth 65536 in
theorem w_hears : about1.hears theMethod below0 = true := by decide +kernel
set_option maxRecDepth 65536 in
theorem w_ripe : about1.ripe theMethod args0 below0 = true := by decide +kernel
theorem w_running : about1.status = .running := rfl
set_option maxRecDepth 65536 in
theorem w_room : about1.hasRoom e0.platform room_1 = true :=
  launch0.hasRoom_least _ room_1 (by decide +kernel) (by decide +kernel) (by decide +kernel) (by decide +kernel) (by decide +kernel) (by decide +kernel)
theorem allAtoms_all (ts : List Jvm.Cond) (a : Array Jvm.Value) (st : Jvm.State) : (allAtoms ts).before a st = ts.all (fun c => c.before a st) := by
  induction ts with
  | nil => rfl
  | cons c t ih =>
    show (Jvm.Cond.and c (allAtoms t)).before a st = _
    rw [Jvm.Cond.before_and, ih, List.all_cons]
def words1 : List Jvm.Cond := Jvm.Cond.code x code maxLocals ret :: tables_1
/-- a 'code' word, met by the world's own term for the bytes: nothing is compared byte by byte -/
theorem code_word {y : MethodName} {bytes : ByteArray} {mx : Nat} {rt : Option FieldType} {a : Array Value} {s : State} {m : MethodId} {meth : Method} {c : Code} (h1 : s.methodNamed? y = some m) (h2 : s.vm.method? m = some meth) (h3 : meth.code = some c) (h4 : c.code = bytes)
    (h5 : (c.maxLocals == mx && c.exceptionTable.isEmpty && decide (c.maxStack ≤ mostOperands) && decide (meth.sig.returnType = rt) && !meth.locks && decide (parseMethodDescriptor y.desc = some meth.sig)) = true) : (Jvm.Cond.code y bytes mx rt).before a s = true := by
  simp only [Bool.and_eq_true, beq_iff_eq, Bool.not_eq_true', decide_eq_true_eq] at h5
  obtain ⟨⟨⟨⟨⟨g1, g2⟩, g3⟩, g4⟩, g5⟩, g6⟩ := h5
  simp [Cond.before, Cond.holds, Cond.value, h1, h2, h3, h4, g1, g2, g3, g4, g5, g6]
def isCode : Jvm.Cond → Bool
  | .code _ _ _ _ => true
  | _ => false
theorem all_split {L : List Jvm.Cond} {P : Jvm.Cond → Bool} (h1 : L.all (fun c => isCode c || P c) = true) (h2 : ∀ c ∈ L.filter isCode, P c = true) : L.all P = true := by
  refine List.all_eq_true.mpr fun c hc => ?_
  have h := List.all_eq_true.mp h1 c hc
  rcases Bool.eq_false_or_eq_true (isCode c) with hi | hi
  · exact h2 c (List.mem_filter.mpr ⟨hc, hi⟩)
  · simpa [hi] using h
set_option maxRecDepth 65536 in
theorem w_c0 : (Jvm.Cond.code x code maxLocals ret).before args0 about1 = true := code_word (m := ⟨1, 1⟩) (meth := k1m1) (c := k1c1) (by decide +kernel) rfl rfl rfl (by decide +kernel)
set_option maxRecDepth 65536 in
theorem w_c1 : (Jvm.Cond.code ({ cls := "com/example/rollhaus/rollhaus/zehntausend/TurnThrownPinLaw", name := "face", desc := "(I)I" } : Jvm.MethodName) method_3_code (1 : Nat) (Option.some Jvm.ClassFile.FieldType.int)).before args0 about1 = true := code_word (m := ⟨1, 2⟩) (meth := k1m2) (c := k1c2) (by decide +kernel) rfl rfl rfl (by decide +kernel)
set_option maxRecDepth 65536 in
theorem w_c2 : (Jvm.Cond.code ({ cls := "com/example/rollhaus/rollhaus/zehntausend/Turn", name := "<init>", desc := "()V" } : Jvm.MethodName) prog_53_method_1_code (1 : Nat) (Option.none : Option Jvm.ClassFile.FieldType)).before args0 about1 = true := code_word (m := ⟨2, 0⟩) (meth := k2m0) (c := k2c0) (by decide +kernel) rfl rfl rfl (by decide +kernel)
set_option maxRecDepth 65536 in
theorem w_c3 : (Jvm.Cond.code ({ cls := "java/lang/Object", name := "<init>", desc := "()V" } : Jvm.MethodName) object_method_1_code (1 : Nat) (Option.none : Option Jvm.ClassFile.FieldType)).before args0 about1 = true := code_word (m := ⟨0, 0⟩) (meth := k0m0) (c := k0c0) (by decide +kernel) rfl rfl rfl (by decide +kernel)
set_option maxRecDepth 65536 in
theorem w_c4 : (Jvm.Cond.code ({ cls := "com/example/rollhaus/rollhaus/zehntausend/Turn", name := "thrown", desc := "()[I" } : Jvm.MethodName) prog_53_method_8_code (1 : Nat) (Option.some (Jvm.ClassFile.FieldType.array Jvm.ClassFile.FieldType.int))).before args0 about1 = true := code_word (m := ⟨2, 3⟩) (meth := k2m3) (c := k2c3) (by decide +kernel) rfl rfl rfl (by decide +kernel)
set_option maxRecDepth 65536 in
theorem w_c5 : (Jvm.Cond.code ({ cls := "com/example/rollhaus/rollhaus/zehntausend/Turn", name := "roll", desc := "([I)Lcom/example/rollhaus/rollhaus/zehntausend/Scoring;" } : Jvm.MethodName) prog_53_method_2_code (3 : Nat) (Option.some (Jvm.ClassFile.FieldType.object "com/example/rollhaus/rollhaus/zehntausend/Scoring"))).before args0 about1 = true := code_word (m := ⟨2, 1⟩) (meth := k2m1) (c := k2c1) (by decide +kernel) rfl rfl rfl (by decide +kernel)
set_option maxRecDepth 65536 in
theorem w_c6 : (Jvm.Cond.code ({ cls := "com/example/rollhaus/rollhaus/zehntausend/Scoring", name := "of", desc := "([I)Lcom/example/rollhaus/rollhaus/zehntausend/Scoring;" } : Jvm.MethodName) prog_52_method_2_code (7 : Nat) (Option.some (Jvm.ClassFile.FieldType.object "com/example/rollhaus/rollhaus/zehntausend/Scoring"))).before args0 about1 = true := code_word (m := ⟨3, 1⟩) (meth := k3m1) (c := k3c1) (by decide +kernel) rfl rfl rfl (by decide +kernel)
set_option maxRecDepth 65536 in
theorem w_c7 : (Jvm.Cond.code ({ cls := "com/example/rollhaus/rollhaus/dice/Faces", name := "counts", desc := "([I)[I" } : Jvm.MethodName) prog_26_method_3_code (6 : Nat) (Option.some (Jvm.ClassFile.FieldType.array Jvm.ClassFile.FieldType.int))).before args0 about1 = true := code_word (m := ⟨4, 2⟩) (meth := k4m2) (c := k4c2) (by decide +kernel) rfl rfl rfl (by decide +kernel)
set_option maxRecDepth 65536 in
theorem w_c8 : (Jvm.Cond.code ({ cls := "com/example/rollhaus/rollhaus/dice/Faces", name := "checked", desc := "(I)I" } : Jvm.MethodName) prog_26_method_2_code (1 : Nat) (Option.some Jvm.ClassFile.FieldType.int)).before args0 about1 = true := code_word (m := ⟨4, 1⟩) (meth := k4m1) (c := k4c1) (by decide +kernel) rfl rfl rfl (by decide +kernel)
set_option maxRecDepth 65536 in
theorem w_c9 : (Jvm.Cond.code ({ cls := "com/example/rollhaus/rollhaus/zehntausend/Scoring", name := "value", desc := "(II)I" } : Jvm.MethodName) prog_52_method_3_code (2 : Nat) (Option.some Jvm.ClassFile.FieldType.int)).before args0 about1 = true := code_word (m := ⟨3, 2⟩) (meth := k3m2) (c := k3c2) (by decide +kernel) rfl rfl rfl (by decide +kernel)
set_option maxRecDepth 65536 in
theorem w_c10 : (Jvm.Cond.code ({ cls := "java/util/Arrays", name := "fill", desc := "([IIII)V" } : Jvm.MethodName) jdk_65_method_104_code (5 : Nat) (Option.none : Option Jvm.ClassFile.FieldType)).before args0 about1 = true := code_word (m := ⟨5, 2⟩) (meth := k5m2) (c := k5c2) (by decide +kernel) rfl rfl rfl (by decide +kernel)
set_option maxRecDepth 65536 in
theorem w_c11 : (Jvm.Cond.code ({ cls := "java/util/Arrays", name := "rangeCheck", desc := "(III)V" } : Jvm.MethodName) jdk_65_method_30_code (3 : Nat) (Option.none : Option Jvm.ClassFile.FieldType)).before args0 about1 = true := code_word (m := ⟨5, 1⟩) (meth := k5m1) (c := k5c1) (by decide +kernel) rfl rfl rfl (by decide +kernel)
set_option maxRecDepth 65536 in
theorem w_c12 : (Jvm.Cond.code ({ cls := "java/util/Arrays", name := "copyOf", desc := "([II)[I" } : Jvm.MethodName) jdk_65_method_123_code (3 : Nat) (Option.some (Jvm.ClassFile.FieldType.array Jvm.ClassFile.FieldType.int))).before args0 about1 = true := code_word (m := ⟨5, 3⟩) (meth := k5m3) (c := k5c3) (by decide +kernel) rfl rfl rfl (by decide +kernel)
set_option maxRecDepth 65536 in
theorem w_c13 : (Jvm.Cond.code ({ cls := "java/lang/Math", name := "min", desc := "(II)I" } : Jvm.MethodName) jdk_29_method_69_code (2 : Nat) (Option.some Jvm.ClassFile.FieldType.int)).before args0 about1 = true := code_word (m := ⟨6, 1⟩) (meth := k6m1) (c := k6c1) (by decide +kernel) rfl rfl rfl (by decide +kernel)
set_option maxRecDepth 65536 in
theorem w_c14 : (Jvm.Cond.code ({ cls := "com/example/rollhaus/rollhaus/zehntausend/Scoring", name := "<init>", desc := "(I[I)V" } : Jvm.MethodName) prog_52_method_1_code (3 : Nat) (Option.none : Option Jvm.ClassFile.FieldType)).before args0 about1 = true := code_word (m := ⟨3, 0⟩) (meth := k3m0) (c := k3c0) (by decide +kernel) rfl rfl rfl (by decide +kernel)
set_option maxRecDepth 65536 in
theorem w_c15 : (Jvm.Cond.code ({ cls := "com/example/rollhaus/rollhaus/zehntausend/TurnThrownPinLaw", name := "same", desc := "([I[I)Z" } : Jvm.MethodName) method_4_code (2 : Nat) (Option.some Jvm.ClassFile.FieldType.boolean)).before args0 about1 = true := code_word (m := ⟨1, 3⟩) (meth := k1m3) (c := k1c3) (by decide +kernel) rfl rfl rfl (by decide +kernel)
set_option maxRecDepth 65536 in
theorem w_c16 : (Jvm.Cond.code ({ cls := "com/example/rollhaus/rollhaus/zehntausend/Scoring", name := "points", desc := "()I" } : Jvm.MethodName) prog_52_method_4_code (1 : Nat) (Option.some Jvm.ClassFile.FieldType.int)).before args0 about1 = true := code_word (m := ⟨3, 3⟩) (meth := k3m3) (c := k3c3) (by decide +kernel) rfl rfl rfl (by decide +kernel)
set_option maxRecDepth 65536 in
theorem w_c17 : (Jvm.Cond.code ({ cls := "com/example/rollhaus/rollhaus/zehntausend/Scoring", name := "dice", desc := "()[I" } : Jvm.MethodName) prog_52_method_5_code (1 : Nat) (Option.some (Jvm.ClassFile.FieldType.array Jvm.ClassFile.FieldType.int))).before args0 about1 = true := code_word (m := ⟨3, 4⟩) (meth := k3m4) (c := k3c4) (by decide +kernel) rfl rfl rfl (by decide +kernel)
set_option maxRecDepth 65536 in
theorem w_c18 : (Jvm.Cond.code ({ cls := "com/example/rollhaus/rollhaus/zehntausend/Turn", name := "keep", desc := "([I)V" } : Jvm.MethodName) prog_53_method_3_code (4 : Nat) (Option.none : Option Jvm.ClassFile.FieldType)).before args0 about1 = true := code_word (m := ⟨2, 2⟩) (meth := k2m2) (c := k2c2) (by decide +kernel) rfl rfl rfl (by decide +kernel)
set_option maxRecDepth 65536 in
theorem w_c19 : (Jvm.Cond.code ({ cls := "com/example/rollhaus/rollhaus/dice/Faces", name := "among", desc := "([I[I)Z" } : Jvm.MethodName) prog_26_method_4_code (7 : Nat) (Option.some Jvm.ClassFile.FieldType.boolean)).before args0 about1 = true := code_word (m := ⟨4, 3⟩) (meth := k4m3) (c := k4c3) (by decide +kernel) rfl rfl rfl (by decide +kernel)
def codes1 : List Jvm.Cond := [Jvm.Cond.code x code maxLocals ret, Jvm.Cond.code ({ cls := "com/example/rollhaus/rollhaus/zehntausend/TurnThrownPinLaw", name := "face", desc := "(I)I" } : Jvm.MethodName) method_3_code (1 : Nat) (Option.some Jvm.ClassFile.FieldType.int), Jvm.Cond.code ({ cls := "com/example/rollhaus/rollhaus/zehntausend/Turn", name := "<init>", desc := "()V" } : Jvm.MethodName) prog_53_method_1_code (1 : Nat) (Option.none : Option Jvm.ClassFile.FieldType), Jvm.Cond.code ({ cls := "java/lang/Object", name := "<init>", desc := "()V" } : Jvm.MethodName) object_method_1_code (1 : Nat) (Option.none : Option Jvm.ClassFile.FieldType), Jvm.Cond.code ({ cls := "com/example/rollhaus/rollhaus/zehntausend/Turn", name := "thrown", desc := "()[I" } : Jvm.MethodName) prog_53_method_8_code (1 : Nat) (Option.some (Jvm.ClassFile.FieldType.array Jvm.ClassFile.FieldType.int)), Jvm.Cond.code ({ cls := "com/example/rollhaus/rollhaus/zehntausend/Turn", name := "roll", desc := "([I)Lcom/example/rollhaus/rollhaus/zehntausend/Scoring;" } : Jvm.MethodName) prog_53_method_2_code (3 : Nat) (Option.some (Jvm.ClassFile.FieldType.object "com/example/rollhaus/rollhaus/zehntausend/Scoring")), Jvm.Cond.code ({ cls := "com/example/rollhaus/rollhaus/zehntausend/Scoring", name := "of", desc := "([I)Lcom/example/rollhaus/rollhaus/zehntausend/Scoring;" } : Jvm.MethodName) prog_52_method_2_code (7 : Nat) (Option.some (Jvm.ClassFile.FieldType.object "com/example/rollhaus/rollhaus/zehntausend/Scoring")), Jvm.Cond.code ({ cls := "com/example/rollhaus/rollhaus/dice/Faces", name := "counts", desc := "([I)[I" } : Jvm.MethodName) prog_26_method_3_code (6 : Nat) (Option.some (Jvm.ClassFile.FieldType.array Jvm.ClassFile.FieldType.int)), Jvm.Cond.code ({ cls := "com/example/rollhaus/rollhaus/dice/Faces", name := "checked", desc := "(I)I" } : Jvm.MethodName) prog_26_method_2_code (1 : Nat) (Option.some Jvm.ClassFile.FieldType.int), Jvm.Cond.code ({ cls := "com/example/rollhaus/rollhaus/zehntausend/Scoring", name := "value", desc := "(II)I" } : Jvm.MethodName) prog_52_method_3_code (2 : Nat) (Option.some Jvm.ClassFile.FieldType.int), Jvm.Cond.code ({ cls := "java/util/Arrays", name := "fill", desc := "([IIII)V" } : Jvm.MethodName) jdk_65_method_104_code (5 : Nat) (Option.none : Option Jvm.ClassFile.FieldType), Jvm.Cond.code ({ cls := "java/util/Arrays", name := "rangeCheck", desc := "(III)V" } : Jvm.MethodName) jdk_65_method_30_code (3 : Nat) (Option.none : Option Jvm.ClassFile.FieldType), Jvm.Cond.code ({ cls := "java/util/Arrays", name := "copyOf", desc := "([II)[I" } : Jvm.MethodName) jdk_65_method_123_code (3 : Nat) (Option.some (Jvm.ClassFile.FieldType.array Jvm.ClassFile.FieldType.int)), Jvm.Cond.code ({ cls := "java/lang/Math", name := "min", desc := "(II)I" } : Jvm.MethodName) jdk_29_method_69_code (2 : Nat) (Option.some Jvm.ClassFile.FieldType.int), Jvm.Cond.code ({ cls := "com/example/rollhaus/rollhaus/zehntausend/Scoring", name := "<init>", desc := "(I[I)V" } : Jvm.MethodName) prog_52_method_1_code (3 : Nat) (Option.none : Option Jvm.ClassFile.FieldType), Jvm.Cond.code ({ cls := "com/example/rollhaus/rollhaus/zehntausend/TurnThrownPinLaw", name := "same", desc := "([I[I)Z" } : Jvm.MethodName) method_4_code (2 : Nat) (Option.some Jvm.ClassFile.FieldType.boolean), Jvm.Cond.code ({ cls := "com/example/rollhaus/rollhaus/zehntausend/Scoring", name := "points", desc := "()I" } : Jvm.MethodName) prog_52_method_4_code (1 : Nat) (Option.some Jvm.ClassFile.FieldType.int), Jvm.Cond.code ({ cls := "com/example/rollhaus/rollhaus/zehntausend/Scoring", name := "dice", desc := "()[I" } : Jvm.MethodName) prog_52_method_5_code (1 : Nat) (Option.some (Jvm.ClassFile.FieldType.array Jvm.ClassFile.FieldType.int)), Jvm.Cond.code ({ cls := "com/example/rollhaus/rollhaus/zehntausend/Turn", name := "keep", desc := "([I)V" } : Jvm.MethodName) prog_53_method_3_code (4 : Nat) (Option.none : Option Jvm.ClassFile.FieldType), Jvm.Cond.code ({ cls := "com/example/rollhaus/rollhaus/dice/Faces", name := "among", desc := "([I[I)Z" } : Jvm.MethodName) prog_26_method_4_code (7 : Nat) (Option.some Jvm.ClassFile.FieldType.boolean)]
set_option maxRecDepth 65536 in
theorem codes_eq : words1.filter isCode = codes1 := rfl
theorem w_codes : ∀ c ∈ words1.filter isCode, c.before args0 about1 = true := by
  rw [codes_eq]
  intro c hc
  simp only [codes1, List.mem_cons, List.not_mem_nil, or_false] at hc
  rcases hc with rfl | rfl | rfl | rfl | rfl | rfl | rfl | rfl | rfl | rfl | rfl | rfl | rfl | rfl | rfl | rfl | rfl | rfl | rfl | rfl
  · exact w_c0
  · exact w_c1
  · exact w_c2
  · exact w_c3
  · exact w_c4
  · exact w_c5
  · exact w_c6
  · exact w_c7
  · exact w_c8
  · exact w_c9
  · exact w_c10
  · exact w_c11
  · exact w_c12
  · exact w_c13
  · exact w_c14
  · exact w_c15
  · exact w_c16
  · exact w_c17
  · exact w_c18
  · exact w_c19
set_option maxRecDepth 65536 in
theorem w_t1 : (words1.take 24).all (fun c => isCode c || c.before args0 about1) = true := by decide +kernel
set_option maxRecDepth 65536 in
theorem w_t2 : ((words1.drop 24).take 24).all (fun c => isCode c || c.before args0 about1) = true := by decide +kernel
set_option maxRecDepth 65536 in
theorem w_t3 : (((words1.drop 24).drop 24).take 24).all (fun c => isCode c || c.before args0 about1) = true := by decide +kernel
set_option maxRecDepth 65536 in
theorem w_t4 : ((((words1.drop 24).drop 24).drop 24).take 24).all (fun c => isCode c || c.before args0 about1) = true := by decide +kernel
set_option maxRecDepth 65536 in
theorem w_t5 : ((((words1.drop 24).drop 24).drop 24).drop 24).all (fun c => isCode c || c.before args0 about1) = true := by decide +kernel
theorem w_tables : (allAtoms (Jvm.Cond.code x code maxLocals ret :: tables_1)).before args0 about1 = true := by
  rw [allAtoms_all]
  show words1.all (fun c => c.before args0 about1) = true
  refine all_split ?_ w_codes
  rw [← List.take_append_drop 24 words1, List.all_append, w_t1, ← List.take_append_drop 24 (words1.drop 24), List.all_append, w_t2, ← List.take_append_drop 24 ((words1.drop 24).drop 24), List.all_append, w_t3, ← List.take_append_drop 24 (((words1.drop 24).drop 24).drop 24), List.all_append, w_t4, w_t5]
  rfl
set_option maxRecDepth 65536 in
theorem w_case : (Jvm.Cond.and given_1 narrow_1).before args0 about1 = true := by decide +kernel
theorem w_applies : (headSpec (Jvm.Cond.code x code maxLocals ret :: tables_1) room_1).applies x e0.platform about1 = true :=
  (Spec.applies_iff w_frames).mpr ⟨w_running, w_runnable, w_alone, w_named, w_hears, w_ripe, w_room, w_tables⟩
theorem atStart : AtStart classFile x code maxLocals ret World_1 tables_1 room_1 Calls_1 rest_1 Pre_1 launch0 p0 e0 about1 theMethod args0 below0 :=
  ⟨lists_1, trivial, launch0.admits_env _ _ _, launch0.least_env, fairChoices_fair.cas, fairChoices_fair.clock, w_frames, w_args, w_heap, w_applies, trivial, trivial, w_case⟩
end start1
theorem witness_1 : WitnessClaimed_1 := ⟨start1.p0, start1.e0, start1.about1, start1.theMethod, start1.args0, start1.below0, start1.atStart⟩
end Jvm.Pilot.@@N@@
