/-
  THE PLAIN LAW of FnPatternPixelInvertsAndHalvesAsFrequencyDoubles, over the words of doubles. No Go in sight.
-/
import Derived.Test.Qxb6618749aOps
import Derived.Laws.FloatBits
namespace Go.Proofs.Qxb6618749a.Fl
open Ieee

theorem mul_le_P2 {a b i j : Nat} (h1 : a ≤ P2 i) (h2 : b ≤ P2 j) : a * b ≤ P2 (i + j) := by
  rw [P2_add]; exact Nat.mul_le_mul h1 h2
theorem P2_le_mul {a b i j : Nat} (h1 : P2 i ≤ a) (h2 : P2 j ≤ b) : P2 (i + j) ≤ a * b := by
  rw [P2_add]; exact Nat.mul_le_mul h1 h2
theorem P2_4 : P2 4 = 16 := by rw [P2_def]
theorem P2_1 : P2 1 = 2 := by rw [P2_def]
theorem P2_2 : P2 2 = 4 := by rw [P2_def]
theorem U_le : U ≤ P2 1074 := Nat.le_refl _

/-- zzAbs on words. -/
def absW (x : Nat) : Nat := if double.order x 0 == some .lt then x ^^^ 2 ^ 63 else x

theorem is_zero : Is 0 false 0 := by
  have := is_const 0 0 0 rfl (by omega) (Or.inl rfl) (by omega)
  rwa [Nat.zero_mul] at this

theorem abs_is {x v : Nat} {s : Bool} (h : Is x s v) (hx : x < 2 ^ 64) : ∃ r, Is (absW x) r v ∧ (r = false ∨ v = 0) := by
  unfold absW
  rw [lss_is h is_zero]
  by_cases hc : sg s v < sg false 0
  · rw [decide_eq_true hc, if_pos rfl]
    have hs : s = true := by
      cases s
      · exfalso
        simp [sg] at hc
        omega
      · rfl
    subst hs
    exact ⟨false, is_neg h hx, Or.inl rfl⟩
  · rw [decide_eq_false hc]
    refine ⟨s, h, ?_⟩
    cases s
    · exact Or.inl rfl
    · right
      simp [sg] at hc
      omega

theorem is_16 : Is 4625196817309499392 false (P2 4 * U) := is_pow _ 4 (by decide) (by omega)
theorem is_2 : Is 4611686018427387904 false (P2 1 * U) := is_pow _ 1 (by decide) (by omega)
theorem is_1e14 : Is 4397347889687374747 false (6338253001141147 * P2 975) :=
  is_const 4397347889687374747 975 6338253001141147 (by decide) (by decide) (Or.inr (by decide)) (by decide)
theorem is_1e200 : Is 1614679632300144556 false (6894565328877484 * P2 357) :=
  is_const 1614679632300144556 357 6894565328877484 (by decide) (by decide) (Or.inr (by decide)) (by decide)
theorem is_1e9 : Is 4741671816366391296 false (8388608000000000 * P2 1051) :=
  is_const 4741671816366391296 1051 8388608000000000 (by decide) (by decide) (Or.inr (by decide)) (by decide)

theorem max_rel {n X Y M : Nat} (hM : M ≤ Y) (b1 : n * X ≤ n * Y + max Y M) (b2 : n * Y ≤ n * X + max Y M) : n * X ≤ n * Y + Y ∧ n * Y ≤ n * X + Y := by
  rw [Nat.max_eq_left hM] at b1 b2
  exact ⟨b1, b2⟩

theorem P2_52 : 2 ^ 52 ≤ P2 52 := by rw [P2_def]; exact Nat.le_refl _
theorem P2_53 : 2 ^ 53 ≤ P2 53 := by rw [P2_def]; exact Nat.le_refl _

/-- What the pixel's own steps give: 16 f, p, and how p hangs on k and f. -/
theorem pixel_steps {f kf F K : Nat} {s : Bool} (hf : Is f false F) (hF1 : P2 409 ≤ F) (hF2 : F ≤ P2 1105) (hk : Is kf s K) (hK : K ≤ P2 1138) :
    ∃ f16 p P, double.mul 4625196817309499392 f = some f16 ∧ double.div kf f16 = some p ∧ Is f16 false (F * P2 4) ∧ Is p (s ^^ false) P ∧
      (P2 1073 ≤ K → 2 ^ 52 * (P * (F * P2 4)) ≤ 2 ^ 52 * (K * U) + K * U ∧ 2 ^ 52 * (K * U) ≤ 2 ^ 52 * (P * (F * P2 4)) + K * U) ∧ (K = 0 → P = 0) := by
  have hs1 : F * P2 4 < P2 2097 := Nat.lt_of_le_of_lt (mul_le_P2 hF2 (Nat.le_refl _)) (P2_lt (by omega))
  obtain ⟨f16, e1, h1⟩ := (mul_pow hf is_16 hs1).2
  have hne : F * P2 4 ≠ 0 := Nat.ne_of_gt (Nat.mul_pos (Nat.lt_of_lt_of_le (P2_pos 409) hF1) (P2_pos 4))
  have hs2 : 2 * (K * U) < P2 2097 * (F * P2 4) := by
    have a1 := mul_le_P2 hK U_le
    have a2 := P2_le_mul (Nat.le_refl (P2 2097)) (P2_le_mul hF1 (Nat.le_refl (P2 4)))
    have a3 : P2 (1 + (1138 + 1074)) < P2 (2097 + (409 + 4)) := P2_lt (by omega)
    rw [P2_add 1, P2_1] at a3
    exact Nat.lt_of_le_of_lt (Nat.mul_le_mul_left 2 a1) (Nat.lt_of_lt_of_le a3 a2)
  obtain ⟨p, P, e2, h2, b1, b2, b3⟩ := div_is hk h1 hne hs2
  refine ⟨f16, p, P, e1, e2, h1, h2, ?_, b3⟩
  intro hK1
  refine max_rel ?_ b1 b2
  have q1 := mul_le_P2 P2_52 (mul_le_P2 hF2 (Nat.le_refl (P2 4)))
  have q2 := P2_le_mul hK1 (Nat.le_refl (P2 1074))
  exact Nat.le_trans q1 (Nat.le_trans (P2_le (by omega)) q2)

theorem ar1 {X Y Z : Nat} (b1 : 2 ^ 52 * X ≤ 2 ^ 52 * Y + Y) (b2 : 2 ^ 52 * Y ≤ 2 ^ 52 * X + Y) (c1 : 2 ^ 53 * Z ≤ 2 ^ 53 * X + X) (c2 : 2 ^ 53 * X ≤ 2 ^ 53 * Z + X) :
    2 ^ 51 * Z ≤ 2 ^ 51 * Y + Y ∧ 2 ^ 51 * Y ≤ 2 ^ 51 * Z + Y := by omega
theorem ar2 {R K T D : Nat} (h1 : 2 ^ 51 * R ≤ 2 ^ 51 * K + K) (h2 : 2 ^ 51 * K ≤ 2 ^ 51 * R + K) (hD : D ≤ R - K + (K - R)) (hK : 2 ^ 200 ≤ K)
    (t1 : 2 ^ 53 * T ≤ 2 ^ 53 * D + max D (2 ^ 52)) : 2 ^ 50 * T ≤ K := by omega
theorem ar3 {K T Rr C Y : Nat} (h : 2 ^ 50 * T ≤ K) (hC : Y ≤ 2 ^ 47 * C) (c : 2 ^ 53 * (C * K) ≤ 2 ^ 53 * (Rr * Y) + C * K) (hY : 0 < Y) : T ≤ Rr := by
  have h1 : Y * K ≤ 2 ^ 47 * (C * K) := by rw [← Nat.mul_assoc]; exact Nat.mul_le_mul_right K hC
  have h2 : 2 ^ 50 * (T * Y) ≤ Y * K := by rw [← Nat.mul_assoc, Nat.mul_comm Y]; exact Nat.mul_le_mul_right Y h
  have h3 : T * Y ≤ Rr * Y := by
    generalize T * Y = a at *
    generalize Rr * Y = b at *
    generalize C * K = c at *
    generalize Y * K = d at *
    omega
  exact Nat.le_of_mul_le_mul_right h3 hY

theorem rel_mul {n R K : Nat} (h : n * (R * U) ≤ n * (K * U) + K * U) : n * R ≤ n * K + K := by
  have : (n * R) * U ≤ (n * K + K) * U := by rw [Nat.add_mul, Nat.mul_assoc, Nat.mul_assoc]; exact h
  exact Nat.le_of_mul_le_mul_right this U_pos
theorem rel_mul' {n R K : Nat} (h : n * (K * U) ≤ n * (R * U) + K * U) : n * K ≤ n * R + K := by
  have : (n * K) * U ≤ (n * R + K) * U := by rw [Nat.add_mul, Nat.mul_assoc, Nat.mul_assoc]; exact h
  exact Nat.le_of_mul_le_mul_right this U_pos

theorem dist_same (s : Bool) (a b : Nat) : (sg s a - sg s b).natAbs = a - b + (b - a) := by
  cases s <;> simp [sg] <;> omega

theorem le_of_signs {r r' : Bool} {T R : Nat} (h : T ≤ R) (hr : r = false ∨ T = 0) (hr' : r' = false ∨ R = 0) : sg r T ≤ sg r' R := by
  cases r <;> cases r' <;> simp [sg] at * <;> omega

/-- What the law asks of the words. -/
def PixelOk (f kf : Nat) : Prop :=
    ∃ f16 p p16 r t m14 f2 f32 p2 ph,
      double.mul 4625196817309499392 f = some f16 ∧ double.div kf f16 = some p ∧ double.mul p 4625196817309499392 = some p16 ∧ double.mul p16 f = some r ∧
      double.sub r kf = some t ∧ double.mul 4397347889687374747 (absW kf) = some m14 ∧
      (double.order (absW t) m14 == some .lt || double.order (absW t) m14 == some .eq) = true ∧
      double.mul 4611686018427387904 f = some f2 ∧ double.mul 4625196817309499392 f2 = some f32 ∧ double.div kf f32 = some p2 ∧
      double.div p 4611686018427387904 = some ph ∧ (double.order p2 ph == some .eq) = true

/-- k is zero: so is all. -/
theorem pixel_zero {f kf F : Nat} {s : Bool} (hf : Is f false F) (hF1 : P2 409 ≤ F) (hF2 : F ≤ P2 1104) (hk : Is kf s 0) (hkl : kf < 2 ^ 64) : PixelOk f kf := by
  have hF2' : F ≤ P2 1105 := Nat.le_trans hF2 (P2_le (by omega))
  obtain ⟨f16, p, P, e1, e2, h1, h2, -, b3⟩ := pixel_steps hf hF1 hF2' hk (Nat.zero_le _)
  have hP := b3 rfl
  subst hP
  have hs1 : F * P2 1 < P2 2097 := Nat.lt_of_le_of_lt (mul_le_P2 hF2 (Nat.le_refl _)) (P2_lt (by omega))
  obtain ⟨f2, e8, h8⟩ := (mul_pow hf is_2 hs1).2
  have g1 : P2 409 ≤ F * P2 1 := by rw [P2_1]; exact Nat.le_trans hF1 (Nat.le_mul_of_pos_right _ (by omega))
  have g2 : F * P2 1 ≤ P2 1105 := mul_le_P2 hF2 (Nat.le_refl _)
  obtain ⟨f32, p2, Q, e9, e10, h9, h10, -, d3⟩ := pixel_steps h8 g1 g2 hk (Nat.zero_le _)
  have hQ := d3 rfl
  subst hQ
  obtain ⟨p16, e3, h3⟩ := (mul_pow h2 is_16 (by rw [Nat.zero_mul]; exact P2_pos _)).1
  rw [Nat.zero_mul] at h3
  obtain ⟨r, R, e4, h4, -, -, c3⟩ := mul_is h3 hf (by rw [Nat.zero_mul]; exact P2_pos _)
  have hR : R = 0 := by
    have := c3 0 1074 (by rw [Nat.zero_mul, Nat.zero_mul]) (by omega) (by omega)
    rw [Nat.zero_mul] at this
    exact (Nat.mul_eq_zero.1 this).resolve_right (Nat.ne_of_gt U_pos)
  subst hR
  have z0 : ∀ b : Bool, sg b 0 = 0 := fun b => by cases b <;> rfl
  obtain ⟨t, T, q, e5, h5, -, -, c5⟩ := sub_is h4 hk (by rw [z0, z0]; exact P2_pos _)
  have hT := c5 (by rw [z0, z0]; rfl)
  subst hT
  obtain ⟨ra, ha, -⟩ := abs_is hk hkl
  obtain ⟨m14, M, e6, h6, -, -, c6⟩ := mul_is is_1e14 ha (by rw [Nat.mul_zero]; exact P2_pos _)
  have hM : M = 0 := by
    have := c6 0 1074 (by rw [Nat.zero_mul, Nat.mul_zero]) (by omega) (by omega)
    rw [Nat.mul_zero] at this
    exact (Nat.mul_eq_zero.1 this).resolve_right (Nat.ne_of_gt U_pos)
  subst hM
  obtain ⟨rt, hat, -⟩ := abs_is h5 (double.sub_lt e5)
  obtain ⟨ph, H, e11, h11, -, -, c11⟩ := div_is h2 is_2 (Nat.ne_of_gt (Nat.mul_pos (P2_pos _) U_pos)) (by rw [Nat.zero_mul, Nat.mul_zero]; exact Nat.mul_pos (P2_pos _) (Nat.mul_pos (P2_pos _) U_pos))
  have hH := c11 rfl
  subst hH
  refine ⟨f16, p, p16, r, t, m14, f2, f32, p2, ph, e1, e2, e3, e4, e5, e6, ?_, e8, e9, e10, e11, ?_⟩
  · rw [leq_is hat h6, z0, z0]; rfl
  · rw [eql_is h10 h11, z0, z0]; rfl

/-- k is not zero. -/
theorem pixel_pos {f kf F K : Nat} {s : Bool} (hf : Is f false F) (hF1 : P2 409 ≤ F) (hF2 : F ≤ P2 1104) (hk : Is kf s K) (hK1 : P2 1073 ≤ K) (hK2 : K ≤ P2 1138) (hkl : kf < 2 ^ 64) : PixelOk f kf := by
  have hF2' : F ≤ P2 1105 := Nat.le_trans hF2 (P2_le (by omega))
  obtain ⟨f16, p, P, e1, e2, h1, h2, b, -⟩ := pixel_steps hf hF1 hF2' hk hK2
  obtain ⟨b1, b2⟩ := b hK1
  have hs1 : F * P2 1 < P2 2097 := Nat.lt_of_le_of_lt (mul_le_P2 hF2 (Nat.le_refl _)) (P2_lt (by omega))
  obtain ⟨f2, e8, h8⟩ := (mul_pow hf is_2 hs1).2
  have g1 : P2 409 ≤ F * P2 1 := by rw [P2_1]; exact Nat.le_trans hF1 (Nat.le_mul_of_pos_right _ (by omega))
  have g2 : F * P2 1 ≤ P2 1105 := mul_le_P2 hF2 (Nat.le_refl _)
  obtain ⟨f32, p2, Q, e9, e10, h9, h10, -, -⟩ := pixel_steps h8 g1 g2 hk hK2
  have hX : P * (F * P2 4) = P * P2 4 * F := by ac_rfl
  have hKU1 : P2 (1073 + 1074) ≤ K * U := P2_le_mul hK1 (Nat.le_refl (P2 1074))
  have hKU2 : K * U ≤ P2 (1138 + 1074) := mul_le_P2 hK2 U_le
  have hXhi : P * (F * P2 4) ≤ P2 2213 := by
    have a3 : P2 2213 = 2 * P2 (1138 + 1074) := by rw [← P2_1, ← P2_add]
    have : P * (F * P2 4) ≤ 2 * (K * U) := by
      clear h2 h10
      generalize P * (F * P2 4) = X at *
      generalize K * U = Y at *
      omega
    rw [a3]
    exact Nat.le_trans this (Nat.mul_le_mul_left 2 hKU2)
  have hXlo : P2 2146 ≤ P * (F * P2 4) := by
    have a3 : P2 (1073 + 1074) = 2 * P2 2146 := by rw [← P2_1, ← P2_add]
    have : K * U ≤ 2 * (P * (F * P2 4)) := by
      clear h2 h10
      generalize P * (F * P2 4) = X at *
      generalize K * U = Y at *
      omega
    rw [a3] at hKU1
    exact Nat.le_of_mul_le_mul_left (Nat.le_trans hKU1 this) (by omega)
  have hPhi : P ≤ P2 1800 := by
    have a1 : P * P2 413 ≤ P * (F * P2 4) := Nat.mul_le_mul_left _ (P2_le_mul hF1 (Nat.le_refl (P2 4)))
    have a2 : P2 2213 = P2 1800 * P2 413 := by rw [← P2_add]
    rw [a2] at hXhi
    exact Nat.le_of_mul_le_mul_right (Nat.le_trans a1 hXhi) (P2_pos 413)
  have hPlo : P2 1038 ≤ P := by
    have a1 : P * (F * P2 4) ≤ P * P2 1108 := Nat.mul_le_mul_left _ (mul_le_P2 hF2 (Nat.le_refl (P2 4)))
    have a2 : P2 2146 = P2 1038 * P2 1108 := by rw [← P2_add]
    rw [a2] at hXlo
    exact Nat.le_of_mul_le_mul_right (Nat.le_trans hXlo a1) (P2_pos 1108)
  have hs3 : P * P2 4 < P2 2097 := Nat.lt_of_le_of_lt (mul_le_P2 hPhi (Nat.le_refl _)) (P2_lt (by omega))
  obtain ⟨p16, e3, h3⟩ := (mul_pow h2 is_16 hs3).1
  have hs4 : P * P2 4 * F < P2 3171 := by
    rw [← hX]
    exact Nat.lt_of_le_of_lt hXhi (P2_lt (by omega))
  obtain ⟨r, R, e4, h4, c1, c2, -⟩ := mul_is h3 hf hs4
  rw [← hX] at c1 c2
  have hUb : 2 ^ 52 * U ≤ P * (F * P2 4) := Nat.le_trans (Nat.le_trans (mul_le_P2 P2_52 U_le) (P2_le (by omega))) hXlo
  obtain ⟨c1', c2'⟩ := max_rel hUb c1 c2
  obtain ⟨r1, r2⟩ := ar1 b1 b2 c1' c2'
  have hR1 := rel_mul r1
  have hR2 := rel_mul' r2
  -- the difference
  have hsgn : (((s ^^ false) ^^ false) ^^ false) = s := by cases s <;> rfl
  rw [hsgn] at h4
  have hK200 : 2 ^ 200 ≤ K := by
    have : P2 200 ≤ P2 1073 := P2_le (by omega)
    rw [P2_def 200] at this
    exact Nat.le_trans this hK1
  have hD := dist_same s R K
  have hs5 : (sg s R - sg s K).natAbs < P2 2097 := by
    rw [hD]
    have : P2 1138 < P2 2097 := P2_lt (by omega)
    clear b1 b2 c1 c2 c1' c2' r1 r2 hX hXhi hXlo hUb hKU1 hKU2
    omega
  obtain ⟨t, T, q, e5, h5, t1, -, -⟩ := sub_is h4 hk hs5
  have hT : 2 ^ 50 * T ≤ K := ar2 hR1 hR2 (Nat.le_of_eq hD) hK200 t1
  -- the bound
  obtain ⟨ra, ha, ha'⟩ := abs_is hk hkl
  have hra : ra = false := ha'.resolve_right (Nat.ne_of_gt (Nat.lt_of_lt_of_le (P2_pos _) hK1))
  subst hra
  have hC1 : P2 1027 ≤ 6338253001141147 * P2 975 := by
    have : P2 1027 = P2 52 * P2 975 := by rw [← P2_add]
    rw [this, P2_def 52]
    exact Nat.mul_le_mul_right _ (by decide)
  have hC2 : 6338253001141147 * P2 975 ≤ P2 1028 := by
    have : P2 1028 = P2 53 * P2 975 := by rw [← P2_add]
    rw [this, P2_def 53]
    exact Nat.mul_le_mul_right _ (by decide)
  have his := is_1e14
  generalize 6338253001141147 * P2 975 = C at hC1 hC2 his
  have hCK1 : P2 (1027 + 1073) ≤ C * K := P2_le_mul hC1 hK1
  have hs6 : C * K < P2 3171 := Nat.lt_of_le_of_lt (mul_le_P2 hC2 hK2) (P2_lt (by omega))
  obtain ⟨m14, M, e6, h6, m1, m2, -⟩ := mul_is his ha hs6
  have hUc : 2 ^ 52 * U ≤ C * K := Nat.le_trans (Nat.le_trans (mul_le_P2 P2_52 U_le) (P2_le (by omega))) hCK1
  obtain ⟨-, m2'⟩ := max_rel hUc m1 m2
  have hCU : U ≤ 2 ^ 47 * C := by
    have : U = P2 47 * P2 1027 := by rw [← P2_add, U_eq]
    rw [this, P2_def 47]
    exact Nat.mul_le_mul_left _ hC1
  have hTM : T ≤ M := ar3 hT hCU m2' U_pos
  obtain ⟨rt, hat, hat'⟩ := abs_is h5 (double.sub_lt e5)
  -- half the pixel
  have hs11 : 2 ^ 52 * P2 1 ≤ P := Nat.le_trans (Nat.le_trans (mul_le_P2 P2_52 (Nat.le_refl _)) (P2_le (by omega))) hPlo
  have hs12 : P < P2 2096 := Nat.lt_of_le_of_lt hPhi (P2_lt (by omega))
  obtain ⟨ph, H, e11, h11, hH⟩ := div_pow h2 is_2 hs11 hs12
  have h52F : 2 ^ 52 ≤ F * P2 4 := Nat.le_trans (Nat.le_trans P2_52 (P2_le (by omega))) (P2_le_mul hF1 (Nat.le_refl (P2 4)))
  have h9' : Is f32 false (2 * (F * P2 4)) := by
    have : F * P2 1 * P2 4 = 2 * (F * P2 4) := by rw [P2_1]; ac_rfl
    rwa [this] at h9
  have hQ := div_twice hk h1 h9' h52F e2 e10 h2 h10 (Nat.le_trans (P2_le (by omega)) hPlo)
  have hHQ : H = Q := by
    rw [P2_1] at hH
    omega
  subst hHQ
  refine ⟨f16, p, p16, r, t, m14, f2, f32, p2, ph, e1, e2, e3, e4, e5, e6, ?_, e8, e9, e10, e11, ?_⟩
  · rw [leq_is hat h6]
    exact decide_eq_true (le_of_signs hTM hat' (Or.inl rfl))
  · rw [eql_is h10 h11]
    exact decide_eq_true rfl

end Go.Proofs.Qxb6618749a.Fl
