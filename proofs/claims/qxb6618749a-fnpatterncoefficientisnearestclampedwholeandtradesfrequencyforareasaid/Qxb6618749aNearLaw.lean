/-
  THE PLAIN LAW of FnPatternCoefficientIsNearestClampedWholeAndTradesFrequencyForArea, whole. No Go in sight.
-/
import Derived.Test.Qxb6618749aNear
namespace Go.Proofs.Qxb6618749a.Fl
open Ieee

/-- The words that the law compares at coefficient k. -/
def Bounds (f a : Nat) (k : Int) : Prop :=
  ∃ q b ab bb lo aa hi, Sq f a q ∧ double.sub (floatOfInt .f64 k) 4602678819172646912 = some b ∧ double.add (floatOfInt .f64 k) 4602678819172646912 = some ab ∧
    double.mul b b = some bb ∧ double.mul bb 4607182418791010209 = some lo ∧ double.mul ab ab = some aa ∧ double.mul aa 4607182418804521008 = some hi ∧
    (1 < k → (double.order q lo == some .gt || double.order q lo == some .eq) = true) ∧ (k < 7 → (double.order q hi == some .lt || double.order q hi == some .eq) = true)

def NearOk (f a : Nat) : Prop :=
  ∃ f2 aq af x n x1 n1 x2 n2 x3 n3, double.mul 4611686018427387904 f = some f2 ∧ double.div a 4616189618054758400 = some aq ∧ double.mul 4616189618054758400 a = some af ∧
    Coef f a x n ∧ Coef f2 aq x1 n1 ∧ kOf n1 = kOf n ∧ Coef f2 a x2 n2 ∧ kOf n ≤ kOf n2 ∧ Coef f af x3 n3 ∧ kOf n ≤ kOf n3 ∧
    (((double.order f 0 == some .lt || double.order f 0 == some .eq) = true ∧ kOf n = 1) ∨ ((double.order f 0 == some .lt || double.order f 0 == some .eq) = false ∧ Bounds f a (kOf n)))

theorem quarter_is {a A : Nat} {sa : Bool} (ha : Is a sa A) (hA : A ≤ P2 1094) :
    ∃ aq Aq, double.div a 4616189618054758400 = some aq ∧ Is aq sa Aq ∧ Aq ≤ A + 1 ∧ (A = 0 → Aq = 0) := by
  have hne : P2 2 * U ≠ 0 := Nat.ne_of_gt (Nat.mul_pos (P2_pos _) U_pos)
  have hs : 2 * (A * U) < P2 2097 * (P2 2 * U) := by
    have h1 : A * U ≤ P2 1094 * U := Nat.mul_le_mul_right _ hA
    have h2 : P2 2097 * (P2 2 * U) = P2 2099 * U := by rw [← Nat.mul_assoc, ← P2_add]
    have h3 : 2 * (P2 1094 * U) = P2 1095 * U := by rw [← Nat.mul_assoc, ← P2_1, ← P2_add]
    have h4 : P2 1095 * U < P2 2099 * U := Nat.mul_lt_mul_of_pos_right (P2_lt (by omega)) U_pos
    omega
  obtain ⟨aq, Aq, e, h, b1, -, b3⟩ := div_is ha is_4 hne hs
  have hx0 : (sa ^^ false) = sa := by cases sa <;> rfl
  rw [hx0] at h
  refine ⟨aq, Aq, e, h, ?_, b3⟩
  rw [P2_2] at b1
  have : 2 ^ 52 * Aq * U ≤ (2 ^ 52 * (A + 1)) * U := by
    rw [Nat.mul_assoc, Nat.mul_assoc, Nat.add_mul]
    have e1 : Aq * (4 * U) = 4 * (Aq * U) := by ac_rfl
    rw [e1] at b1
    generalize Aq * U = x at *
    generalize A * U = y at *
    generalize U = u at *
    omega
  have := Nat.le_of_mul_le_mul_right this U_pos
  omega

/-- The frame of the three easy cases: k is 1 at all four calls. -/
theorem near_ones {f a F A : Nat} {sf sa : Bool} (hf : Is f sf F) (hF : F ≤ P2 1091) (ha : Is a sa A) (hA : A ≤ P2 1094) (hsa : sa = false ∨ A = 0)
    (hone : ∀ {f' a' F' A' : Nat} {sa' : Bool}, Is f' sf F' → F' ≤ P2 1092 → (F' = F ∨ F' = F * P2 1) → Is a' sa' A' → A' ≤ P2 1096 → A' ≤ 4 * A + 1 → (sa' = false ∨ A' = 0) → ∃ x n, Coef f' a' x n ∧ kOf n = 1)
    (hb : ((double.order f 0 == some .lt || double.order f 0 == some .eq) = true) ∨ ((double.order f 0 == some .lt || double.order f 0 == some .eq) = false ∧ Bounds f a 1)) : NearOk f a := by
  have hs1 : F * P2 1 < P2 2097 := Nat.lt_of_le_of_lt (mul_le_P2 hF (Nat.le_refl _)) (P2_lt (by omega))
  obtain ⟨f2, e1, h1⟩ := (mul_pow hf is_2 hs1).2
  have hx0 : (sf ^^ false) = sf := by cases sf <;> rfl
  rw [hx0] at h1
  obtain ⟨aq, Aq, e2, h2, q1, q2⟩ := quarter_is ha hA
  have hs6 : A * P2 2 < P2 2097 := Nat.lt_of_le_of_lt (mul_le_P2 hA (Nat.le_refl _)) (P2_lt (by omega))
  obtain ⟨af, e3, h3⟩ := (mul_pow ha is_4 hs6).2
  have hx1 : (sa ^^ false) = sa := by cases sa <;> rfl
  rw [hx1] at h3
  have g1 : F ≤ P2 1092 := Nat.le_trans hF (P2_le (by omega))
  have g2 : F * P2 1 ≤ P2 1092 := mul_le_P2 hF (Nat.le_refl _)
  have g3 : A ≤ P2 1096 := Nat.le_trans hA (P2_le (by omega))
  have g4 : Aq ≤ P2 1096 := by
    have : P2 1094 < P2 1096 := P2_lt (by omega)
    omega
  have g5 : A * P2 2 ≤ P2 1096 := mul_le_P2 hA (Nat.le_refl _)
  have hAq : sa = false ∨ Aq = 0 := by
    rcases hsa with h | h
    · exact Or.inl h
    · exact Or.inr (q2 h)
  have hAf : sa = false ∨ A * P2 2 = 0 := by
    rcases hsa with h | h
    · exact Or.inl h
    · exact Or.inr (by rw [h, Nat.zero_mul])
  obtain ⟨x, n, c0, k0⟩ := hone hf g1 (Or.inl rfl) ha g3 (by omega) hsa
  obtain ⟨x1, n1, c1, k1⟩ := hone h1 g2 (Or.inr rfl) h2 g4 (by omega) hAq
  obtain ⟨x2, n2, c2, k2⟩ := hone h1 g2 (Or.inr rfl) ha g3 (by omega) hsa
  obtain ⟨x3, n3, c3, k3⟩ := hone hf g1 (Or.inl rfl) h3 g5 (by rw [P2_2]; omega) hAf
  refine ⟨f2, aq, af, x, n, x1, n1, x2, n2, x3, n3, e1, e2, e3, c0, c1, by omega, c2, by omega, c3, by omega, ?_⟩
  rcases hb with h | ⟨h, h'⟩
  · exact Or.inl ⟨h, k0⟩
  · exact Or.inr ⟨h, by rw [k0]; exact h'⟩

theorem near_neg {f a F A : Nat} {sf sa : Bool} (hf : Is f sf F) (hF : F ≤ P2 1091) (ha : Is a sa A) (hA : A ≤ P2 1094) (hsa : sa = false ∨ A = 0) (hneg : sf = true ∨ F = 0) : NearOk f a := by
  apply near_ones hf hF ha hA hsa
  · intro f' a' F' A' sa' hf' hF' hF'' ha' hA' _ hsa'
    refine coef_neg hf' hF' ha' hA' hsa' ?_
    rcases hneg with h | h
    · exact Or.inl h
    · right
      rcases hF'' with h' | h'
      · rw [h', h]
      · rw [h', h, Nat.zero_mul]
  · left
    rw [leq_is hf is_zero]
    apply decide_eq_true
    rcases hneg with h | h
    · rw [h]; simp [sg]
    · rw [h]; cases sf <;> simp [sg]

theorem pos_test {f F : Nat} (hf : Is f false F) (h0 : F ≠ 0) : (double.order f 0 == some .lt || double.order f 0 == some .eq) = false := by
  rw [leq_is hf is_zero]
  apply decide_eq_false
  simp [sg]
  omega

theorem near_tiny {f a F A : Nat} {sa : Bool} (hf : Is f false F) (h0 : F ≠ 0) (hF : F ≤ P2 1091) (ha : Is a sa A) (hA : A ≤ P2 1094) (hsa : sa = false ∨ A = 0) (ht : F ≤ P2 600 ∨ A ≤ P2 600) : NearOk f a := by
  apply near_ones hf hF ha hA hsa
  · intro f' a' F' A' sa' hf' hF' hF'' ha' hA' hA'' hsa'
    refine coef_tiny hf' hF' ha' hA' hsa' ?_
    have h4 : P2 610 = 1024 * P2 600 := by rw [show 610 = 10 + 600 from rfl, P2_add, P2_def 10]
    have hp := P2_pos 600
    rcases ht with h | h
    · left
      rcases hF'' with h' | h'
      · omega
      · rw [h', P2_1]; omega
    · right
      omega
  · right
    refine ⟨pos_test hf h0, ?_⟩
    obtain ⟨q, s, SQ, hq, hq', hSQ⟩ := sq_tiny hf hF ha hA ht
    obtain ⟨b, ab, bb, lo, aa, hi, L, H, e1, e2, e3, e4, e5, e6, hL, hH, -, i2⟩ := consts_1
    refine ⟨q, b, ab, bb, lo, aa, hi, hq, e1, e2, e3, e4, e5, e6, fun h => by omega, fun _ => ?_⟩
    rw [leq_is hq' hH]
    apply decide_eq_true
    have : SQ ≤ H := by
      generalize U = u at *
      omega
    cases s <;> simp [sg] <;> omega

theorem near_normal {f a F A : Nat} (hf : Is f false F) (hF1 : P2 600 ≤ F) (hF : F ≤ P2 1091) (ha : Is a false A) (hA1 : P2 600 ≤ A) (hA : A ≤ P2 1094) : NearOk f a := by
  obtain ⟨f2, aq, af, x, S, X, x2, n2, x3, n3, e1, e2, e3, c0, c1, c2, k2, c3, k3, b1, b2, y1, y2⟩ := coef_main hf hF1 hF ha hA1 hA
  obtain ⟨q, SQ, hq, hq', s1, s2⟩ := sq_normal hf hF1 hF ha hA b1 b2 y1 y2
  have h0 : F ≠ 0 := Nat.ne_of_gt (Nat.lt_of_lt_of_le (P2_pos _) hF1)
  refine ⟨f2, aq, af, x, _, x, _, x2, n2, x3, n3, e1, e2, e3, c0, c1, rfl, c2, k2, c3, k3, Or.inr ⟨pos_test hf h0, ?_⟩⟩
  -- k as a natural number
  have hU : U = 2 * P2 1073 := by rw [U_eq, ← P2_1, ← P2_add]
  have hdm := Nat.div_add_mod (X + P2 1073) U
  have hml := Nat.mod_lt (X + P2 1073) U_pos
  generalize (X + P2 1073) / U = N at *
  generalize (X + P2 1073) % U = R at *
  obtain ⟨k, hk⟩ : ∃ k : Nat, k = min (max N 1) 7 := ⟨_, rfl⟩
  have hkO : kOf (N : Int) = (k : Int) := by unfold kOf; omega
  rw [hkO]
  obtain ⟨b, ab, bb, lo, aa, hi, L, H, g1, g2, g3, g4, g5, g6, hL, hH, i1, i2⟩ := consts_all k (by omega) (by omega)
  refine ⟨q, b, ab, bb, lo, aa, hi, hq, g1, g2, g3, g4, g5, g6, ?_, ?_⟩
  · intro h1
    rw [geq_is hq' hL]
    apply decide_eq_true
    have hX : (2 * k - 1) * U ≤ 2 * X := by
      have hkN : k ≤ N := by omega
      have h2 : U * k ≤ U * N := Nat.mul_le_mul_left _ hkN
      have h3 : (2 * k - 1) * U = 2 * (U * k) - U := by rw [Nat.sub_mul, Nat.one_mul]; congr 1; ac_rfl
      clear i1 i2 s1 s2 b1 b2 y1 y2
      omega
    have := lo_ok hX s1 i1 (by omega)
    simp [sg]
    omega
  · intro h7
    rw [leq_is hq' hH]
    apply decide_eq_true
    have hX : 2 * X ≤ (2 * k + 1) * U := by
      have hkN : N ≤ k := by omega
      have h2 : U * N ≤ U * k := Nat.mul_le_mul_left _ hkN
      have h3 : (2 * k + 1) * U = 2 * (U * k) + U := by rw [Nat.add_mul, Nat.one_mul]; congr 1; ac_rfl
      clear i1 i2 s1 s2 b1 b2 y1 y2
      omega
    have := hi_ok hX s2 i2 (by omega)
    simp [sg]
    omega

/-- THE PLAIN LAW. -/
theorem near_law (f a : Nat)
    (g1 : (double.order f 13904980397738950656 == some .gt || double.order f 13904980397738950656 == some .eq) = true)
    (g2 : (double.order f 4681608360884174848 == some .lt || double.order f 4681608360884174848 == some .eq) = true)
    (g3 : (double.order a 0 == some .gt || double.order a 0 == some .eq) = true)
    (g4 : (double.order a 4696837146684686336 == some .lt || double.order a 4696837146684686336 == some .eq) = true) : NearOk f a := by
  obtain ⟨sf, F, hf, l1, l2⟩ := between is_m1e5 is_1e5 g1 g2
  obtain ⟨sa, A, ha, m1, m2⟩ := between is_zero is_1e6 g3 g4
  have c1 : 6871947673600000 * P2 1038 ≤ P2 1091 := by
    have : P2 1091 = P2 53 * P2 1038 := by rw [← P2_add]
    rw [this, P2_def 53]
    exact Nat.mul_le_mul_right _ (by decide)
  have c2 : 8589934592000000 * P2 1041 ≤ P2 1094 := by
    have : P2 1094 = P2 53 * P2 1041 := by rw [← P2_add]
    rw [this, P2_def 53]
    exact Nat.mul_le_mul_right _ (by decide)
  generalize 6871947673600000 * P2 1038 = L at *
  generalize 8589934592000000 * P2 1041 = H at *
  have hF : F ≤ P2 1091 := by
    have : F ≤ L := by cases sf <;> simp [sg] at l1 l2 <;> omega
    omega
  have hsa : sa = false ∨ A = 0 := by
    cases sa
    · exact Or.inl rfl
    · right
      simp [sg] at m1
      omega
  have hA : A ≤ P2 1094 := by
    rcases hsa with h | h
    · subst h
      simp [sg] at m2
      omega
    · rw [h]; exact Nat.zero_le _
  by_cases hneg : sf = true ∨ F = 0
  · exact near_neg hf hF ha hA hsa hneg
  · have hs : sf = false := by
      cases sf
      · rfl
      · exact (hneg (Or.inl rfl)).elim
    subst hs
    have h0 : F ≠ 0 := fun h => hneg (Or.inr h)
    by_cases ht : F ≤ P2 600 ∨ A ≤ P2 600
    · exact near_tiny hf h0 hF ha hA hsa ht
    · have hsa' : sa = false := by
        rcases hsa with h | h
        · exact h
        · exact (ht (Or.inr (by rw [h]; exact Nat.zero_le _))).elim
      subst hsa'
      exact near_normal hf (by omega) hF ha (by omega) hA

end Go.Proofs.Qxb6618749a.Fl
