/-
  THE PLAIN LAW of FnPatternCoefficientBlockSpansTheStimulusSide, whole. No Go in sight.
-/
import Derived.Test.Qxb6618749aBlock
namespace Go.Proofs.Qxb6618749a.Fl
open Ieee

theorem from_max52 {z y m : Nat} (h : 2 ^ 52 * z ≤ 2 ^ 52 * y + max y (2 ^ 52 * m)) : z ≤ 2 * y + m := by omega

/-- The tail of the small cases: pp finite and great, or infinite. -/
theorem small_tail {a A pp : Nat} {sa : Bool} (ha : Is a sa A) (h : double.read pp = .infinity false ∨ ∃ PP B, Is pp false PP ∧ P2 B ≤ PP ∧ 2 * (A * U) ≤ P2 (B + 700)) :
    ∃ n s N, double.div a pp = some n ∧ Is n s N ∧ N ≤ U := by
  rcases h with h | ⟨PP, B, h, hB, hA⟩
  · obtain ⟨n, e, hn⟩ := div_inf ha h
    exact ⟨n, _, 0, e, hn, Nat.zero_le _⟩
  · have hpos : 0 < PP := Nat.lt_of_lt_of_le (P2_pos _) hB
    have hdv : 2 * (A * U) < P2 2097 * PP := by
      have q1 : P2 (B + 700) < P2 (2097 + B) := P2_lt (by omega)
      have q2 := P2_le_mul (Nat.le_refl (P2 2097)) hB
      exact Nat.lt_of_le_of_lt hA (Nat.lt_of_lt_of_le q1 q2)
    obtain ⟨n, N, e, hn, n1, -, -⟩ := div_is ha h (Nat.ne_of_gt hpos) hdv
    refine ⟨n, _, N, e, hn, ?_⟩
    have q3 := from_max52 n1
    have q4 : P2 (B + 700) ≤ P2 700 * PP := by rw [P2_add, Nat.mul_comm]; exact Nat.mul_le_mul_left _ hB
    have q5 : N * PP ≤ (P2 700 + 1) * PP := by
      rw [Nat.add_mul, Nat.one_mul]
      omega
    have q6 := Nat.le_of_mul_le_mul_right q5 hpos
    have q7 : P2 700 < P2 1074 := P2_lt (by omega)
    rw [← U_eq] at q7
    omega

theorem block_small {f a F A : Nat} {sa : Bool} (hf : Is f false F) (h0 : F ≠ 0) (hF : F ≤ P2 1091) (ha : Is a sa A) (hA : A ≤ P2 1094) (hsa : sa = false ∨ A = 0) (ht : F ≤ P2 600 ∨ A ≤ P2 600) : BlockOk f a := by
  obtain ⟨x, n0, c0, k0⟩ := coef_tiny hf (Nat.le_trans hF (P2_le (by omega))) ha (Nat.le_trans hA (P2_le (by omega))) hsa
    (Or.elim ht (fun h => Or.inl (Nat.le_trans h (P2_le (by omega)))) (fun h => Or.inr (Nat.le_trans h (P2_le (by omega)))))
  refine ⟨x, n0, c0, ?_⟩
  rw [k0]
  have hkf := small_is 1 (by omega) (by omega)
  rw [Nat.one_mul] at hkf
  have hs1 : F * P2 4 < P2 2097 := Nat.lt_of_le_of_lt (mul_le_P2 hF (Nat.le_refl _)) (P2_lt (by omega))
  obtain ⟨f16, e1, h1⟩ := (mul_pow hf is_16 hs1).2
  have h1' : Is f16 false (F * P2 4) := h1
  have hne : F * P2 4 ≠ 0 := Nat.ne_of_gt (Nat.mul_pos (by omega) (P2_pos 4))
  obtain ⟨p, P, e2, h2, -, p2, -⟩ := div_or hkf h1' hne
  have hUU : U * U = P2 2148 := by rw [U_eq, ← P2_add]
  have hp : P2 2147 ≤ P * (F * P2 4) := by
    have q1 : 2 ^ 52 * (F * P2 4) ≤ U * U := by
      rw [hUU]
      exact Nat.le_trans (mul_le_P2 P2_52 (mul_le_P2 hF (Nat.le_refl (P2 4)))) (P2_le (by omega))
    rw [Nat.max_eq_left q1, hUU] at p2
    have q2 : P2 2148 = 2 * P2 2147 := by rw [← P2_1, ← P2_add]
    rw [q2] at p2
    generalize P * (F * P2 4) = Z at *
    omega
  have hP1 : ∀ g, F * P2 4 ≤ P2 g → g ≤ 2147 → P2 (2147 - g) ≤ P := by
    intro g hg hg'
    have q1 : P * (F * P2 4) ≤ P * P2 g := Nat.mul_le_mul_left _ hg
    have q2 : P2 2147 = P2 (2147 - g) * P2 g := by rw [← P2_add]; congr 1; omega
    rw [q2] at hp
    exact Nat.le_of_mul_le_mul_right (Nat.le_trans hp q1) (P2_pos g)
  have hP2 : P2 1052 ≤ P := hP1 1095 (mul_le_P2 hF (Nat.le_refl (P2 4))) (by omega)
  have hgt : (double.order p 0 == some .gt) = true := by
    rcases h2 with h | h
    · have h' : Is p false P := h
      rw [gtr_is h' is_zero]
      apply decide_eq_true
      have := Nat.lt_of_lt_of_le (P2_pos _) hP2
      simp [sg]
      omega
    · exact gtr_inf h is_zero
  -- the square
  have hpp : ∃ pp, double.mul p p = some pp ∧ (double.read pp = .infinity false ∨ ∃ PP B, Is pp false PP ∧ P2 B ≤ PP ∧ 2 * (A * U) ≤ P2 (B + 700)) := by
    rcases h2 with h | h
    · have h' : Is p false P := h
      obtain ⟨pp, PP, e3, h3, -, m2⟩ := mul_or h' h'
      refine ⟨pp, e3, ?_⟩
      rcases h3 with h3 | h3
      · right
        have hsq : ∀ g, P2 g ≤ P → 600 ≤ g → P2 (g + g - 1 - 1074) ≤ PP := by
          intro g hg hg'
          have q0 := P2_le_mul hg hg
          have q1 : 2 ^ 52 * U ≤ P * P := Nat.le_trans (Nat.le_trans (mul_le_P2 P2_52 U_le) (P2_le (by omega))) q0
          rw [Nat.max_eq_left q1] at m2
          have q2 : P2 (g + g) = 2 * P2 (g + g - 1) := by rw [← P2_1, ← P2_add]; congr 1; omega
          have q3 : P2 (g + g - 1) = P2 (g + g - 1 - 1074) * U := by rw [U_eq, ← P2_add]; congr 1; omega
          have q4 : P2 (g + g - 1) ≤ PP * U := by
            rw [q2] at q0
            generalize P * P = Z at *
            generalize PP * U = Y at *
            omega
          rw [q3] at q4
          exact Nat.le_of_mul_le_mul_right q4 U_pos
        rcases ht with ht | ht
        · refine ⟨PP, 2011, h3, hsq 1543 (hP1 604 (mul_le_P2 ht (Nat.le_refl (P2 4))) (by omega)) (by omega), ?_⟩
          have q1 := Nat.mul_le_mul_left 2 (mul_le_P2 hA U_le)
          refine Nat.le_trans q1 ?_
          rw [← P2_1, ← P2_add]
          exact P2_le (by omega)
        · refine ⟨PP, 1029, h3, hsq 1052 hP2 (by omega), ?_⟩
          have q1 := Nat.mul_le_mul_left 2 (mul_le_P2 ht U_le)
          refine Nat.le_trans q1 ?_
          rw [← P2_1, ← P2_add]
          exact P2_le (by omega)
      · exact Or.inl h3
    · obtain ⟨pp, e3, h3⟩ := mul_inf h
      exact ⟨pp, e3, Or.inl h3⟩
  obtain ⟨pp, e3, h3⟩ := hpp
  obtain ⟨n, s, N, e4, h4, hN⟩ := small_tail ha h3
  obtain ⟨b, b8, lo, ll, lb, c, c8, hi, hh, hb, L, H, g1, g2, g3, g4, g5, g6, g7, g8, g9, g10, hL, hH, -, i2⟩ := blk_1
  refine ⟨f16, p, pp, n, b, b8, lo, ll, lb, c, c8, hi, hh, hb, e1, e2, hgt, e3, e4, g1, g2, g3, g4, g5, g6, g7, g8, g9, g10, fun h => by omega, fun _ => ?_⟩
  rw [leq_is h4 hH]
  apply decide_eq_true
  have : N ≤ H := by
    clear hUU
    generalize U = u at *
    omega
  cases s <;> simp [sg] <;> omega

/-- THE PLAIN LAW. -/
theorem block_law (f a : Nat)
    (g1 : (double.order f 0 == some .gt) = true)
    (g2 : (double.order f 4681608360884174848 == some .lt || double.order f 4681608360884174848 == some .eq) = true)
    (g3 : (double.order a 0 == some .gt || double.order a 0 == some .eq) = true)
    (g4 : (double.order a 4696837146684686336 == some .lt || double.order a 4696837146684686336 == some .eq) = true) : BlockOk f a := by
  have g1' : (double.order f 0 == some .gt || double.order f 0 == some .eq) = true := by rw [g1]; rfl
  obtain ⟨sf, F, hf, l1, l2⟩ := between is_zero is_1e5 g1' g2
  obtain ⟨sa, A, ha, m1, m2⟩ := between is_zero is_1e6 g3 g4
  have c1 : 6871947673600000 * P2 1038 ≤ P2 1091 := by
    have : P2 1091 = P2 53 * P2 1038 := by rw [← P2_add]
    rw [this, P2_def 53]
    exact Nat.mul_le_mul_right _ (by decide)
  have c2 : 8589934592000000 * P2 1041 ≤ P2 1094 := by
    have : P2 1094 = P2 53 * P2 1041 := by rw [← P2_add]
    rw [this, P2_def 53]
    exact Nat.mul_le_mul_right _ (by decide)
  generalize 6871947673600000 * P2 1038 = L at *
  generalize 8589934592000000 * P2 1041 = H at *
  rw [gtr_is hf is_zero] at g1
  have g1 := of_decide_eq_true g1
  have hsf : sf = false := by
    cases sf
    · rfl
    · exfalso
      simp [sg] at g1
      omega
  subst hsf
  have h0 : F ≠ 0 := by
    simp [sg] at g1
    omega
  have hF : F ≤ P2 1091 := by
    simp [sg] at l2
    omega
  have hsa : sa = false ∨ A = 0 := by
    cases sa
    · exact Or.inl rfl
    · right
      simp [sg] at m1
      omega
  have hA : A ≤ P2 1094 := by
    rcases hsa with h | h
    · subst h
      simp [sg] at m2
      omega
    · rw [h]; exact Nat.zero_le _
  by_cases ht : F ≤ P2 600 ∨ A ≤ P2 600
  · exact block_small hf h0 hF ha hA hsa ht
  · have hsa' : sa = false := by
      rcases hsa with h | h
      · exact h
      · exact (ht (Or.inr (by rw [h]; exact Nat.zero_le _))).elim
    subst hsa'
    exact block_normal hf (by omega) hF ha (by omega) hA

end Go.Proofs.Qxb6618749a.Fl
