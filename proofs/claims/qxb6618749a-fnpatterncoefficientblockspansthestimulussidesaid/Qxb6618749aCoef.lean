/-
  PatternCoefficient on the words of doubles. No Go in sight.
-/
import Derived.Test.Qxb6618749aRound
import Derived.Test.Qxb6618749aSqrt
namespace Go.Proofs.Qxb6618749a.Fl
open Ieee

theorem is_const_neg (c t kept : Nat) (hc : c = 2 ^ 63 + (t * 2 ^ 52 + kept)) (hk : kept ≤ 2 ^ 53) (h : t = 0 ∨ 2 ^ 52 ≤ kept) (hinf : t * 2 ^ 52 + kept < 2047 * 2 ^ 52) : Is c true (kept * P2 t) := by
  rw [P2_def, hc]
  exact is_rung true t kept hk h hinf
theorem is_1e5 : Is 4681608360884174848 false (6871947673600000 * P2 1038) :=
  is_const 4681608360884174848 1038 6871947673600000 (by decide) (by decide) (Or.inr (by decide)) (by decide)
theorem is_m1e5 : Is 13904980397738950656 true (6871947673600000 * P2 1038) :=
  is_const_neg 13904980397738950656 1038 6871947673600000 (by decide) (by decide) (Or.inr (by decide)) (by decide)
theorem is_1e6 : Is 4696837146684686336 false (8589934592000000 * P2 1041) :=
  is_const 4696837146684686336 1041 8589934592000000 (by decide) (by decide) (Or.inr (by decide)) (by decide)
theorem is_4 : Is 4616189618054758400 false (P2 2 * U) := is_pow _ 2 (by decide) (by omega)

/-- The steps of PatternCoefficient at the words f, a: x the product, n the rounded whole number. -/
def Coef (f a x : Nat) (n : Int) : Prop :=
  ∃ f2 r, double.mul 4611686018427387904 f = some f2 ∧ double.sqrt a = some r ∧ double.mul f2 r = some x ∧
    x / 2 ^ 52 % 2048 < 1075 ∧ x < 2 ^ 64 ∧ roundW x < 2 ^ 64 ∧ floatToIntVal .f64 (roundW x) .i64 = some n

/-- What is known of them: S the root, X the product. -/
theorem coef_is {f a F A : Nat} {sf sa : Bool} (hf : Is f sf F) (hF : F ≤ P2 1092) (ha : Is a sa A) (hA : A ≤ P2 1096) (hsa : sa = false ∨ A = 0) :
    ∃ x S X s, Coef f a x (sg s ((X + P2 1073) / U)) ∧ s = (sf ^^ sa) ∧ Is x s X ∧
      (∃ f2 r, double.mul 4611686018427387904 f = some f2 ∧ double.sqrt a = some r ∧ double.mul f2 r = some x ∧ Is f2 sf (F * P2 1) ∧ Is r sa S) ∧
      S ≤ P2 1086 ∧ (A ≠ 0 → 2 ^ 51 * (S * S) ≤ 2 ^ 51 * (A * U) + A * U ∧ 2 ^ 51 * (A * U) ≤ 2 ^ 51 * (S * S) + A * U ∧ P2 55 ≤ S) ∧ (A = 0 → S = 0) ∧
      2 ^ 53 * (X * U) ≤ 2 ^ 53 * (F * P2 1 * S) + max (F * P2 1 * S) (2 ^ 52 * U) ∧ 2 ^ 53 * (F * P2 1 * S) ≤ 2 ^ 53 * (X * U) + max (F * P2 1 * S) (2 ^ 52 * U) ∧
      (F * P2 1 * S = 0 → X = 0) := by
  have hs1 : F * P2 1 < P2 2097 := Nat.lt_of_le_of_lt (mul_le_P2 hF (Nat.le_refl _)) (P2_lt (by omega))
  obtain ⟨f2, e1, h1⟩ := (mul_pow hf is_2 hs1).2
  have hx0 : (sf ^^ false) = sf := by cases sf <;> rfl
  rw [hx0] at h1
  have hroot : ∃ r S, double.sqrt a = some r ∧ Is r sa S ∧ S ≤ P2 1086 ∧
      (A ≠ 0 → 2 ^ 51 * (S * S) ≤ 2 ^ 51 * (A * U) + A * U ∧ 2 ^ 51 * (A * U) ≤ 2 ^ 51 * (S * S) + A * U ∧ P2 55 ≤ S) ∧ (A = 0 → S = 0) := by
    by_cases h0 : A = 0
    · subst h0
      obtain ⟨r, er, hr⟩ := sqrt_zero ha
      exact ⟨r, 0, er, hr, Nat.zero_le _, fun h => (h rfl).elim, fun _ => rfl⟩
    · have hs : sa = false := hsa.resolve_right h0
      subst hs
      obtain ⟨r, S, er, hr, b1, b2, b3⟩ := sqrt_is ha h0 (Nat.le_trans hA (P2_le (by omega)))
      refine ⟨r, S, er, hr, ?_, fun _ => ⟨b1, b2, b3⟩, fun h => (h0 h).elim⟩
      by_cases hc : S ≤ P2 1086
      · exact hc
      · exfalso
        have q1 := sq_le (Nat.le_of_lt (Nat.lt_of_not_le hc))
        rw [← P2_add] at q1
        have q2 := mul_le_P2 hA U_le
        have q3 : P2 (1086 + 1086) = 4 * P2 (1096 + 1074) := by rw [← P2_2, ← P2_add]
        have hp := P2_pos (1096 + 1074)
        rw [q3] at q1
        generalize A * U = Y at *
        generalize S * S = Z at *
        generalize P2 (1096 + 1074) = B at *
        omega
  obtain ⟨r, S, e2, h2, hS, hb, hz⟩ := hroot
  have hFS : F * P2 1 * S ≤ P2 2179 := mul_le_P2 (mul_le_P2 hF (Nat.le_refl (P2 1))) hS
  obtain ⟨x, X, e3, h3, c1, c2, c3⟩ := mul_is h1 h2 (Nat.lt_of_le_of_lt hFS (P2_lt (by omega)))
  have hlt := double.mul_lt e3
  have hX : X < P2 1126 := by
    by_cases hc : X < P2 1126
    · exact hc
    · exfalso
      have q1 := Nat.mul_le_mul_right U (Nat.le_of_not_lt hc)
      have q2 : P2 1126 * U = P2 2200 := by rw [U_eq, ← P2_add]
      have q3 : 4 * P2 2179 ≤ P2 2200 := by rw [← P2_2, ← P2_add]; exact P2_le (by omega)
      have q4 : 2 ^ 52 * U ≤ P2 2179 := Nat.le_trans (mul_le_P2 P2_52 U_le) (P2_le (by omega))
      have hp := P2_pos 2179
      rw [q2] at q1
      generalize F * P2 1 * S = Y at *
      generalize 2 ^ 52 * U = V at *
      generalize X * U = Z at *
      generalize P2 2179 = B at *
      generalize P2 2200 = C at *
      omega
  obtain ⟨r1, r2, r3⟩ := round_is h3 hlt hX
  refine ⟨x, S, X, _, ⟨f2, r, e1, e2, e3, r1, hlt, r2, r3⟩, rfl, h3, ⟨f2, r, e1, e2, e3, h1, h2⟩, hS, hb, hz, c1, c2, ?_⟩
  intro h0
  have := c3 0 1074 (by rw [h0, Nat.zero_mul]) (by omega) (by omega)
  rw [h0] at this
  exact (Nat.mul_eq_zero.1 this).resolve_right (Nat.ne_of_gt U_pos)

/-- The coefficient out of the rounded whole number. -/
def kOf (n : Int) : Int := min (max n 1) 7

theorem kOf_le (n : Int) (h : n ≤ 1) : kOf n = 1 := by unfold kOf; omega

/-- A frequency that is not above zero: k is 1. -/
theorem coef_neg {f a F A : Nat} {sf sa : Bool} (hf : Is f sf F) (hF : F ≤ P2 1092) (ha : Is a sa A) (hA : A ≤ P2 1096) (hsa : sa = false ∨ A = 0) (hneg : sf = true ∨ F = 0) :
    ∃ x n, Coef f a x n ∧ kOf n = 1 := by
  obtain ⟨x, S, X, s, hc, hs, -, -, -, -, hz, -, -, h0⟩ := coef_is hf hF ha hA hsa
  refine ⟨x, _, hc, kOf_le _ ?_⟩
  have hU : U = 2 * P2 1073 := by rw [U_eq, ← P2_1, ← P2_add]
  have hp73 := P2_pos 1073
  have hzero : X = 0 → (X + P2 1073) / U = 0 := by
    intro h
    rw [h]
    exact Nat.div_eq_of_lt (by omega)
  have hcase : X = 0 ∨ s = true := by
    rcases hneg with h | h
    · rcases hsa with h' | h'
      · right
        rw [hs, h, h']
        rfl
      · left
        exact h0 (by rw [hz h', Nat.mul_zero])
    · left
      exact h0 (by rw [h, Nat.zero_mul, Nat.zero_mul])
  rcases hcase with h | h
  · rw [hzero h]
    cases s <;> simp [sg]
  · rw [h]
    generalize (X + P2 1073) / U = N
    simp only [sg, if_true]
    omega

/-- Where 2 f sqrt(a) is tiny: k is 1. -/
theorem coef_tiny {f a F A : Nat} {sf sa : Bool} (hf : Is f sf F) (hF : F ≤ P2 1092) (ha : Is a sa A) (hA : A ≤ P2 1096) (hsa : sa = false ∨ A = 0) (ht : F ≤ P2 610 ∨ A ≤ P2 610) :
    ∃ x n, Coef f a x n ∧ kOf n = 1 := by
  obtain ⟨x, S, X, s, hc, hs, -, -, hS, hb, hz, c1, -, h0⟩ := coef_is hf hF ha hA hsa
  refine ⟨x, _, hc, kOf_le _ ?_⟩
  have hU : U = 2 * P2 1073 := by rw [U_eq, ← P2_1, ← P2_add]
  have hp73 := P2_pos 1073
  have hFS : F * P2 1 * S ≤ P2 1940 := by
    rcases ht with h | h
    · exact Nat.le_trans (mul_le_P2 (mul_le_P2 h (Nat.le_refl (P2 1))) hS) (P2_le (by omega))
    · have hS2 : S ≤ P2 843 := by
        by_cases hA0 : A = 0
        · rw [hz hA0]; exact Nat.zero_le _
        · have b1 := (hb hA0).1
          by_cases hc : S ≤ P2 843
          · exact hc
          · exfalso
            have q1 := sq_le (Nat.le_of_lt (Nat.lt_of_not_le hc))
            rw [← P2_add] at q1
            have q2 := mul_le_P2 h U_le
            have q3 : P2 (843 + 843) = 4 * P2 (610 + 1074) := by rw [← P2_2, ← P2_add]
            have hp := P2_pos (610 + 1074)
            rw [q3] at q1
            generalize A * U = Y at *
            generalize S * S = Z at *
            generalize P2 (610 + 1074) = B at *
            omega
      exact Nat.le_trans (mul_le_P2 (mul_le_P2 hF (Nat.le_refl (P2 1))) hS2) (P2_le (by omega))
  have hX : X < P2 1073 := by
    by_cases hc : X < P2 1073
    · exact hc
    · exfalso
      have q1 := Nat.mul_le_mul_right U (Nat.le_of_not_lt hc)
      have q2 : P2 1073 * U = P2 2147 := by rw [U_eq, ← P2_add]
      have q3 : 4 * P2 1940 ≤ P2 2147 := by rw [← P2_2, ← P2_add]; exact P2_le (by omega)
      have q4 : 2 ^ 52 * U ≤ P2 1940 := Nat.le_trans (mul_le_P2 P2_52 U_le) (P2_le (by omega))
      have hp := P2_pos 1940
      rw [q2] at q1
      clear hb
      generalize F * P2 1 * S = Y at *
      generalize 2 ^ 52 * U = V at *
      generalize X * U = Z at *
      generalize P2 1940 = B at *
      generalize P2 2147 = C at *
      omega
  have hN : (X + P2 1073) / U = 0 := Nat.div_eq_of_lt (by omega)
  rw [hN]
  cases s <;> simp [sg]

/-! ### Trading factors of two between the operands of a product -/
theorem mul_rep {x y m i n j : Nat} {s t : Bool} (hx : double.read x = .number s m ((i : Int) - 1074)) (hy : double.read y = .number t n ((j : Int) - 1074)) :
    double.mul x y = some (double.nearest (s ^^ t) (m * n) (((i + j : Nat) : Int) - (1074 + 1074 : Nat))) := by
  unfold Format.mul
  rw [hx, hy]
  have e : (i : Int) - 1074 + ((j : Int) - 1074) = ((i + j : Nat) : Int) - (1074 + 1074 : Nat) := by omega
  rw [← e]
  rfl

theorem mul_trade {u u' v v' a b : Nat} {s t : Bool} (hu : Is u s a) (hu' : Is u' s (2 * a)) (hv : Is v t b) (hv' : Is v' t (2 * b)) (ha : 2 ^ 52 ≤ a) (hb : 2 ^ 52 ≤ b) :
    double.mul u' v = double.mul u v' := by
  obtain ⟨m, i, r1, r2, -, -, -⟩ := is_twice hu hu' ha
  obtain ⟨n, j, r3, r4, -, -, -⟩ := is_twice hv hv' hb
  rw [mul_rep r2 r3, mul_rep r1 r4]
  congr 3
  omega

theorem mul_comm_word {x y a b : Nat} {s t : Bool} (hx : Is x s a) (hy : Is y t b) : double.mul x y = double.mul y x := by
  obtain ⟨m, i, r1, -, -, -⟩ := is_open hx
  obtain ⟨n, j, r2, -, -, -⟩ := is_open hy
  rw [mul_rep r1 r2, mul_rep r2 r1, Nat.mul_comm, Nat.add_comm i j, Bool.xor_comm]

theorem mul_twice {u u' v a b w w' z z' : Nat} {s t r r' : Bool} (hu : Is u s a) (hu' : Is u' s (2 * a)) (hv : Is v t b) (ha : 2 ^ 52 ≤ a)
    (hw : double.mul u v = some w) (hw' : double.mul u' v = some w') (hz : Is w r z) (hz' : Is w' r' z') (hn : P2 55 ≤ z) : z' = 2 * z := by
  obtain ⟨m, i, r1, r2, -, -, -⟩ := is_twice hu hu' ha
  obtain ⟨n, j, r3, -, -, -⟩ := is_open hv
  have e1 := mul_rep r1 r3
  have e2 := mul_rep r2 r3
  rw [hw] at e1
  rw [hw'] at e2
  injection e1 with e1
  injection e2 with e2
  by_cases hm : m * n = 0
  · rw [hm] at e1
    have := near_zero (s ^^ t) (((i + j : Nat) : Int) - (1074 + 1074 : Nat))
    rw [← e1] at this
    have := (is_fun hz this).2
    rw [P2_def 55] at hn
    omega
  · have o1 := near_or (s ^^ t) (m * n) (i + j) 1074 hm
    rw [← e1] at o1
    have o2 := near_or (s ^^ t) (m * n) (i + 1 + j) 1074 hm
    rw [← e2] at o2
    have z1 : z = zv (m * n) (i + j) 1074 := by
      rcases o1 with o | o
      · exact (is_fun hz o).2
      · exact (not_inf hz o).elim
    have z2 : z' = zv (m * n) (i + 1 + j) 1074 := by
      rcases o2 with o | o
      · exact (is_fun hz' o).2
      · exact (not_inf hz' o).elim
    rw [z1] at hn
    have hnn := zv_norm _ _ _ hm hn
    rw [z1, z2, show i + 1 + j = i + j + 1 by omega]
    exact zv_twice _ _ _ (by omega) (by omega)

theorem kOf_mono {a b : Int} (h : a ≤ b) : kOf a ≤ kOf b := by unfold kOf; omega
theorem kOf_ge (a : Int) : 1 ≤ kOf a := by unfold kOf; omega

/-- X of at least one and a half: twice X rounds no lower. -/
theorem round_mono {X X' : Nat} (h : X ≤ X') : (X + P2 1073) / U ≤ (X' + P2 1073) / U := Nat.div_le_div_right (by omega)

theorem coef_fun {f a x x' : Nat} {n n' : Int} (h : Coef f a x n) (h' : Coef f a x' n') : x = x' ∧ n = n' := by
  obtain ⟨f2, r, e1, e2, e3, -, -, -, e4⟩ := h
  obtain ⟨f2', r', e1', e2', e3', -, -, -, e4'⟩ := h'
  rw [e1] at e1'
  injection e1' with e1'
  subst e1'
  rw [e2] at e2'
  injection e2' with e2'
  subst e2'
  rw [e3] at e3'
  injection e3' with e3'
  subst e3'
  rw [e4] at e4'
  injection e4' with e4'
  exact ⟨rfl, e4'⟩

/-- THE COEFFICIENT AT A NORMAL FREQUENCY AND AREA: it keeps under the trade and grows with either. -/
theorem coef_main {f a F A : Nat} (hf : Is f false F) (hF1 : P2 600 ≤ F) (hF2 : F ≤ P2 1091) (ha : Is a false A) (hA1 : P2 600 ≤ A) (hA2 : A ≤ P2 1094) :
    ∃ f2 aq af x S X x2 n2 x3 n3, double.mul 4611686018427387904 f = some f2 ∧ double.div a 4616189618054758400 = some aq ∧ double.mul 4616189618054758400 a = some af ∧
      Coef f a x (((X + P2 1073) / U : Nat) : Int) ∧ Coef f2 aq x (((X + P2 1073) / U : Nat) : Int) ∧
      Coef f2 a x2 n2 ∧ kOf (((X + P2 1073) / U : Nat) : Int) ≤ kOf n2 ∧ Coef f af x3 n3 ∧ kOf (((X + P2 1073) / U : Nat) : Int) ≤ kOf n3 ∧
      2 ^ 51 * (S * S) ≤ 2 ^ 51 * (A * U) + A * U ∧ 2 ^ 51 * (A * U) ≤ 2 ^ 51 * (S * S) + A * U ∧
      2 ^ 53 * (X * U) ≤ 2 ^ 53 * (F * P2 1 * S) + F * P2 1 * S ∧ 2 ^ 53 * (F * P2 1 * S) ≤ 2 ^ 53 * (X * U) + F * P2 1 * S := by
  have hF0 : F ≤ P2 1092 := Nat.le_trans hF2 (P2_le (by omega))
  have hA0 : A ≤ P2 1096 := Nat.le_trans hA2 (P2_le (by omega))
  have hAne : A ≠ 0 := Nat.ne_of_gt (Nat.lt_of_lt_of_le (P2_pos _) hA1)
  obtain ⟨x, S, X, s, hc, hs, hx, ⟨f2, r, e1, e2, e3, h1, h2⟩, hS, hb, -, c1, c2, -⟩ := coef_is hf hF0 ha hA0 (Or.inl rfl)
  obtain ⟨b1, b2, b3⟩ := hb hAne
  have hs0 : s = false := by rw [hs]; rfl
  subst hs0
  -- the quarter and the fourfold of the area
  have hq1 : 2 ^ 52 * P2 2 ≤ A := Nat.le_trans (Nat.le_trans (mul_le_P2 P2_52 (Nat.le_refl _)) (P2_le (by omega))) hA1
  obtain ⟨aq, Aq, e5, h5, q5⟩ := div_pow ha is_4 hq1 (Nat.lt_of_le_of_lt hA2 (P2_lt (by omega)))
  have hs6 : A * P2 2 < P2 2097 := Nat.lt_of_le_of_lt (mul_le_P2 hA2 (Nat.le_refl _)) (P2_lt (by omega))
  obtain ⟨af, e6, h6⟩ := (mul_pow ha is_4 hs6).2
  rw [P2_2] at q5 hq1
  have h6' : Is af false (4 * A) := by rw [P2_2, Nat.mul_comm] at h6; exact h6
  have hAq52 : 2 ^ 52 ≤ Aq := by omega
  have ha' : Is a false (4 * Aq) := by rw [show 4 * Aq = A by omega]; exact ha
  have hA52 : 2 ^ 52 ≤ A := by omega
  have h1' : Is f2 false (F * P2 1) := h1
  have hF21 : F * P2 1 ≤ P2 1092 := mul_le_P2 hF2 (Nat.le_refl _)
  have hAq0 : Aq ≤ P2 1096 := by omega
  -- 2 f at a quarter of the area
  obtain ⟨x1, S1, X1, s1, hc1, -, -, ⟨f22, r1, g1, g2, g3, k1, k2⟩, -, hb1, -, -, -, -⟩ := coef_is h1' hF21 h5 hAq0 (Or.inl rfl)
  have hS1 : S = 2 * S1 := sqrt_four h5 ha' rfl hAq52 g2 e2 k2 h2
  have hS55 := (hb1 (by omega)).2.2
  have hS52 : 2 ^ 52 ≤ S1 := by rw [P2_def] at hS55; omega
  have hF52 : 2 ^ 52 ≤ F * P2 1 := Nat.le_trans (Nat.le_trans P2_52 (P2_le (by omega))) (Nat.le_trans hF1 (Nat.le_mul_of_pos_right _ (P2_pos 1)))
  have k1' : Is f22 false (2 * (F * P2 1)) := by rw [show 2 * (F * P2 1) = F * P2 1 * P2 1 by rw [P2_1]; omega]; exact k1
  have h2' : Is r false (2 * S1) := by rw [← hS1]; exact h2
  have htr := mul_trade h1' k1' k2 h2' hF52 hS52
  rw [e3, g3] at htr
  injection htr with htr
  subst htr
  have hn1 : Coef f2 aq x1 (sg false ((X + P2 1073) / U)) := by
    obtain ⟨_, _, _, _, _, p4, p5, p6, p7⟩ := hc
    exact ⟨f22, r1, g1, g2, g3, p4, p5, p6, p7⟩
  -- 2 f at the area
  obtain ⟨x2, S2, X2, s2, hc2, hs2, hx2, ⟨f22', r2, i1, i2, i3, -, j2⟩, -, -, -, -, -, -⟩ := coef_is h1' hF21 ha hA0 (Or.inl rfl)
  have hs20 : s2 = false := by rw [hs2]; rfl
  subst hs20
  have hff : f22' = f22 := by rw [g1] at i1; injection i1 with i1; exact i1.symm
  subst hff
  have hrr : r2 = r := by rw [e2] at i2; injection i2 with i2; exact i2.symm
  subst hrr
  -- f at the fourfold of the area
  have hA4 : 4 * A ≤ P2 1096 := by
    have : A * P2 2 ≤ P2 1096 := mul_le_P2 hA2 (Nat.le_refl (P2 2))
    rw [P2_2] at this
    omega
  obtain ⟨x3, S3, X3, s3, hc3, hs3, hx3, ⟨f2', r3, l1, l2, l3, -, m2⟩, -, -, -, -, -, -⟩ := coef_is hf hF0 h6' hA4 (Or.inl rfl)
  have hs30 : s3 = false := by rw [hs3]; rfl
  subst hs30
  have hff : f2' = f2 := by rw [e1] at l1; injection l1 with l1; exact l1.symm
  subst hff
  have hS3 : S3 = 2 * S := sqrt_four ha h6' rfl hA52 e2 l2 h2 m2
  have m2' : Is r3 false (2 * S) := by rw [← hS3]; exact m2
  have hSge : 2 ^ 52 ≤ S := by omega
  have hcm1 := mul_comm_word h1' h2
  have hcm3 := mul_comm_word h1' m2
  -- growth
  have hgrow : ∀ X' : Nat, (P2 55 ≤ X → X' = 2 * X) → kOf (((X + P2 1073) / U : Nat) : Int) ≤ kOf (((X' + P2 1073) / U : Nat) : Int) := by
    intro X' h
    by_cases hX : P2 55 ≤ X
    · apply kOf_mono
      have := round_mono (show X ≤ X' by rw [h hX]; omega)
      exact Int.ofNat_le.2 this
    · have h55 : P2 55 ≤ P2 1073 := P2_le (by omega)
      have hU : U = 2 * P2 1073 := by rw [U_eq, ← P2_1, ← P2_add]
      have hN : (X + P2 1073) / U = 0 := Nat.div_eq_of_lt (by omega)
      rw [hN, kOf_le _ (by omega)]
      exact kOf_ge _
  refine ⟨_, aq, af, x1, S, X, x2, _, x3, _, e1, e5, e6, hc, hn1, hc2, ?_, hc3, ?_, b1, b2, ?_⟩
  · exact hgrow X2 (fun hX => mul_twice h1' k1' h2 hF52 e3 i3 hx hx2 hX)
  · apply hgrow X3
    intro hX
    rw [hcm1] at e3
    rw [hcm3] at l3
    exact mul_twice h2 m2' h1' hSge e3 l3 hx hx3 hX
  · refine max_rel ?_ c1 c2
    have q1 : P2 836 ≤ S := by
      by_cases hc : P2 836 ≤ S
      · exact hc
      · exfalso
        have q1 := sq_le (Nat.le_of_lt (Nat.lt_of_not_le hc))
        rw [← P2_add] at q1
        have q2 := P2_le_mul hA1 (Nat.le_refl U)
        rw [U_eq, ← U_eq] at q2
        have q3 : P2 (600 + 1074) = 4 * P2 (836 + 836) := by rw [← P2_2, ← P2_add]
        have hp := P2_pos (836 + 836)
        have q2 : P2 (600 + 1074) ≤ A * U := P2_le_mul hA1 (Nat.le_refl (P2 1074))
        rw [q3] at q2
        clear c1 c2 hgrow
        generalize A * U = Y at *
        generalize S * S = Z at *
        generalize P2 (836 + 836) = B at *
        omega
    have q2 := P2_le_mul (P2_le_mul hF1 (Nat.le_refl (P2 1))) q1
    exact Nat.le_trans (Nat.le_trans (mul_le_P2 P2_52 U_le) (P2_le (by omega))) q2

end Go.Proofs.Qxb6618749a.Fl
