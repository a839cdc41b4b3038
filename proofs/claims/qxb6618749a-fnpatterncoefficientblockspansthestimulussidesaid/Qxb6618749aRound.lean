/-
  math.Round and int(..) on the words of doubles: the nearest whole number, halves away from zero. No Go in sight.
-/
import Derived.Test.Qxb6618749aPixel
import Derived.Laws.FloatArith
import Derived.Laws.BitsAllLaws
namespace Go.Proofs.Qxb6618749a.Fl
open Ieee

/-- math.Round on words below 2^52 in magnitude. -/
def roundW (x : Nat) : Nat :=
  if x / 2 ^ 52 % 2048 < 1022 then x / 2 ^ 63 * 2 ^ 63
  else if x / 2 ^ 52 % 2048 = 1022 then x / 2 ^ 63 * 2 ^ 63 + 1023 * 2 ^ 52
  else (x + 2 ^ (1074 - x / 2 ^ 52 % 2048)) / 2 ^ (1075 - x / 2 ^ 52 % 2048) * 2 ^ (1075 - x / 2 ^ 52 % 2048)

theorem low_clear (y k : Nat) (hy : y < 2 ^ 64) (hk : k ≤ 64) : y &&& (18446744073709551615 - (2 ^ k - 1)) = y / 2 ^ k * 2 ^ k := by
  have hp := Nat.two_pow_pos k
  have hle : 2 ^ k ≤ 2 ^ 64 := two_pow_le_of_le hk
  have e1 : 18446744073709551615 - (2 ^ k - 1) = 2 ^ 64 - ((2 ^ k - 1) + 1) := by omega
  have e2 : y / 2 ^ k * 2 ^ k = (y >>> k) <<< k := by rw [Nat.shiftLeft_eq, Nat.shiftRight_eq_div_pow]
  rw [e1, e2]
  apply Nat.eq_of_testBit_eq
  intro i
  rw [Nat.testBit_and, Nat.testBit_two_pow_sub_succ (by omega), Nat.testBit_two_pow_sub_one, Nat.testBit_shiftLeft, Nat.testBit_shiftRight]
  by_cases h1 : k ≤ i
  · rw [decide_eq_true h1, decide_eq_false (show ¬ i < k by omega), Nat.add_sub_cancel' h1]
    by_cases h2 : i < 64
    · rw [decide_eq_true h2]; simp
    · rw [Nat.testBit_lt_two_pow (Nat.lt_of_lt_of_le hy (two_pow_le_of_le (by omega)))]; simp
  · rw [decide_eq_false h1, decide_eq_true (show i < k by omega)]; simp

theorem div_pow_sub (a k : Nat) (h : k ≤ a) : 2 ^ a / 2 ^ k = 2 ^ (a - k) := by
  rw [← Nat.sub_add_cancel h, Nat.pow_add, Nat.mul_div_cancel _ (Nat.two_pow_pos k), Nat.add_sub_cancel]

theorem mask_div (k : Nat) (h : k ≤ 52) : 4503599627370495 / 2 ^ k = 2 ^ (52 - k) - 1 := by
  have e : 4503599627370495 = 2 ^ (52 - k) * 2 ^ k - 1 := by rw [← Nat.pow_add, Nat.sub_add_cancel h]
  have hp := Nat.two_pow_pos k
  have hq := Nat.two_pow_pos (52 - k)
  apply Nat.div_eq_of_lt_le
  · rw [e, Nat.sub_mul, Nat.one_mul]
    generalize 2 ^ (52 - k) * 2 ^ k = M at *
    omega
  · rw [e, Nat.sub_add_cancel hq]
    have := Nat.mul_pos hq hp
    omega

/-- A whole number of ones becomes that int. -/
theorem toInt_is {y N : Nat} {s : Bool} (h : Is y s (N * U)) (hN : N < 2 ^ 62) : floatToIntVal .f64 y .i64 = some (sg s N) := by
  obtain ⟨m, t, r, e, -, -⟩ := is_open h
  have key : (double.read y).toInt .zero = some (sg s N) := by
    rw [r]
    unfold Datum.toInt Datum.integral
    dsimp only
    rw [signed_eq, Nat.pow_zero, Nat.mul_one]
    by_cases ht : 1074 ≤ t
    · have e1 : (-((t : Int) - 1074)).toNat = 0 := by omega
      have e2 : ((t : Int) - 1074).toNat = t - 1074 := by omega
      rw [e1, e2]
      have hn : N = m <<< (t - 1074) := by
        have : P2 t = P2 (t - 1074) * U := by rw [U_eq, ← P2_add, Nat.sub_add_cancel ht]
        rw [this, ← Nat.mul_assoc] at e
        rw [Nat.shiftLeft_eq, ← P2_def]
        exact Nat.eq_of_mul_eq_mul_right U_pos e
      rw [← hn]
      unfold Toward.cut
      simp
    · have e1 : (-((t : Int) - 1074)).toNat = 1074 - t := by omega
      have e2 : ((t : Int) - 1074).toNat = 0 := by omega
      rw [e1, e2, Nat.shiftLeft_zero]
      have hm : m = N * 2 ^ (1074 - t) := by
        have : U = P2 (1074 - t) * P2 t := by rw [U_eq, ← P2_add, Nat.sub_add_cancel (by omega)]
        rw [this, ← Nat.mul_assoc] at e
        rw [← P2_def]
        exact (Nat.eq_of_mul_eq_mul_right (P2_pos t) e).symm
      unfold Toward.cut
      dsimp only
      by_cases hz : N = 0
      · rw [hz, Nat.zero_mul] at hm
        rw [hm, hz]
        simp
      · have hd : 1074 - t ≤ m.log2 + 2 := by
          have h1 : 2 ^ (1074 - t) ≤ m := by rw [hm]; exact Nat.le_mul_of_pos_left _ (by omega)
          have h2 : m < 2 ^ (m.log2 + 1) := Nat.lt_log2_self
          have := lt_of_two_pow_lt (Nat.lt_of_le_of_lt h1 h2)
          omega
        rw [Nat.min_eq_left hd, Nat.one_shiftLeft]
        have hdiv : m / 2 ^ (1074 - t) = N := by rw [hm, Nat.mul_div_cancel _ (Nat.two_pow_pos _)]
        rw [hdiv]
        simp
  unfold floatToIntVal
  rw [show (FloatKind.f64.decode y) = double.read y from rfl, key]
  have hb : IntKind.i64.min ≤ sg s N ∧ sg s N ≤ IntKind.i64.max := by
    have e1 : IntKind.i64.min = -9223372036854775808 := by decide
    have e2 : IntKind.i64.max = 9223372036854775807 := by decide
    rw [e1, e2]
    cases s <;> simp [sg] <;> omega
  dsimp only
  rw [if_pos hb]

theorem word_of (x : Nat) (hx : x < 2 ^ 64) : x = double.word (x / 2 ^ 63 == 1) (x % 2 ^ 63) := by
  show x = if (x / 2 ^ 63 == 1) = true then 2 ^ 63 + x % 2 ^ 63 else x % 2 ^ 63
  split
  · rename_i h
    have := eq_of_beq h
    omega
  · rename_i h
    have : ¬ x / 2 ^ 63 = 1 := fun h' => h (by simp [h'])
    omega

/-- Of a finite word: its rung, and the number by it. -/
theorem is_rung_inv {x v : Nat} {s : Bool} (h : Is x s v) (hx : x < 2 ^ 64) :
    s = (x / 2 ^ 63 == 1) ∧ x % 2 ^ 63 < 2047 * 2 ^ 52 ∧
      ((x % 2 ^ 63 < 2 ^ 52 ∧ v = x % 2 ^ 63) ∨ (2 ^ 52 ≤ x % 2 ^ 63 ∧ v = (2 ^ 52 + x % 2 ^ 63 % 2 ^ 52) * P2 (x % 2 ^ 63 / 2 ^ 52 - 1))) := by
  have e := word_of x hx
  have hr := read_word (x / 2 ^ 63 == 1) (x % 2 ^ 63) (by omega)
  rw [← e] at hr
  obtain ⟨m, t, r, ev, -, -⟩ := is_open h
  rw [r] at hr
  by_cases h1 : x % 2 ^ 63 < 2 ^ 52
  · rw [if_pos h1] at hr
    injection hr with a b c
    have ht : t = 0 := by omega
    refine ⟨a, by omega, Or.inl ⟨h1, ?_⟩⟩
    rw [ev, b, ht, P2_def]
    omega
  · rw [if_neg h1] at hr
    by_cases h2 : x % 2 ^ 63 < 2047 * 2 ^ 52
    · rw [if_pos h2] at hr
      injection hr with a b c
      have ht : t = x % 2 ^ 63 / 2 ^ 52 - 1 := by omega
      exact ⟨a, h2, Or.inr ⟨by omega, by rw [ev, b, ht]⟩⟩
    · rw [if_neg h2] at hr
      split at hr <;> cases hr

theorem is_word_one (s : Bool) (k : Nat) (hk : k = 0) : Is (double.word s ((1023 + k) * 2 ^ 52)) s (1 * U) := by
  have h2 : (1022 + k) * 2 ^ 52 + 2 ^ 52 < 2047 * 2 ^ 52 := by omega
  have := is_rung s (1022 + k) (2 ^ 52) (by omega) (Or.inr (by omega)) h2
  have e1 : (1022 + k) * 2 ^ 52 + 2 ^ 52 = (1023 + k) * 2 ^ 52 := by rw [show 1023 + k = (1022 + k) + 1 by omega, Nat.succ_mul]
  have e2 : 2 ^ 52 * 2 ^ (1022 + k) = 1 * U := by
    rw [← Nat.pow_add, ← P2_def, Nat.one_mul, U_eq]
    congr 1
    omega
  rwa [e1, e2] at this

theorem sum_lt (a q : Nat) (h : a ≤ 1) (hq : q < 2047 * 2 ^ 52) : a * 2 ^ 63 + q < 2 ^ 64 := by omega

theorem is_word_zero (s : Bool) : Is (double.word s 0) s (0 * U) := by
  have := is_rung s 0 0 (by omega) (Or.inl rfl) (by omega)
  rw [Nat.zero_mul] at this ⊢
  exact this

/-- THE VALUE OF Round, AS AN int: the nearest whole number, a half away from zero. -/
theorem round_is {x v : Nat} {s : Bool} (h : Is x s v) (hx : x < 2 ^ 64) (hv : v < P2 1126) :
    x / 2 ^ 52 % 2048 < 1075 ∧ roundW x < 2 ^ 64 ∧ floatToIntVal .f64 (roundW x) .i64 = some (sg s ((v + P2 1073) / U)) := by
  obtain ⟨hs, hr, hc⟩ := is_rung_inv h hx
  have hU : U = 2 * P2 1073 := by rw [U_eq, ← P2_1, ← P2_add]
  have hp73 := P2_pos 1073
  have ee : x / 2 ^ 52 % 2048 = x % 2 ^ 63 / 2 ^ 52 := by omega
  have hword : ∀ r, x / 2 ^ 63 * 2 ^ 63 + r = double.word s r := by
    intro r
    rw [hs]
    show _ = if (x / 2 ^ 63 == 1) = true then 2 ^ 63 + r else r
    have : x / 2 ^ 63 = 0 ∨ x / 2 ^ 63 = 1 := by omega
    rcases this with h | h <;> rw [h] <;> simp
  unfold roundW
  rw [ee]
  by_cases c1 : x % 2 ^ 63 / 2 ^ 52 < 1022
  · rw [if_pos c1]
    have hv2 : v < P2 1073 := by
      rcases hc with ⟨a, b⟩ | ⟨a, b⟩
      · have h52 : P2 52 ≤ P2 1073 := P2_le (by omega)
        rw [P2_def 52] at h52
        omega
      · have h1 : P2 (x % 2 ^ 63 / 2 ^ 52 - 1) ≤ P2 1020 := P2_le (by omega)
        have h2 : (2 ^ 52 + x % 2 ^ 63 % 2 ^ 52) * P2 (x % 2 ^ 63 / 2 ^ 52 - 1) ≤ (2 ^ 53 - 1) * P2 1020 := Nat.mul_le_mul (by omega) h1
        have h3 : P2 1073 = 2 ^ 53 * P2 1020 := by rw [← P2_def 53, ← P2_add]
        have h4 := P2_pos 1020
        rw [b]
        omega
    have hN : (v + P2 1073) / U = 0 := Nat.div_eq_of_lt (by omega)
    rw [hN]
    refine ⟨by omega, by omega, ?_⟩
    have := hword 0
    rw [Nat.add_zero] at this
    rw [this]
    exact toInt_is (is_word_zero s) (by omega)
  · rw [if_neg c1]
    have hc' : v = (2 ^ 52 + x % 2 ^ 63 % 2 ^ 52) * P2 (x % 2 ^ 63 / 2 ^ 52 - 1) := by
      rcases hc with ⟨a, b⟩ | ⟨a, b⟩
      · omega
      · exact b
    by_cases c2 : x % 2 ^ 63 / 2 ^ 52 = 1022
    · rw [if_pos c2]
      have hv1 : P2 1073 ≤ v ∧ v < U := by
        rw [hc', c2]
        have h3 : P2 1073 = 2 ^ 52 * P2 (1022 - 1) := by rw [← P2_def 52, ← P2_add]
        have h4 := P2_pos (1022 - 1)
        rw [hU, h3]
        constructor
        · exact Nat.mul_le_mul_right _ (by omega)
        · rw [← Nat.mul_assoc]
          exact Nat.mul_lt_mul_of_pos_right (by omega) h4
      have hN : (v + P2 1073) / U = 1 := Nat.div_eq_of_lt_le (by omega) (by omega)
      rw [hN]
      refine ⟨by omega, by omega, ?_⟩
      rw [hword]
      exact toInt_is (is_word_one s 0 rfl) (by omega)
    · rw [if_neg c2]
      have c3 : x % 2 ^ 63 / 2 ^ 52 < 1075 := by
        by_cases hlt : x % 2 ^ 63 / 2 ^ 52 < 1075
        · exact hlt
        · exfalso
          have h1 : P2 1074 ≤ P2 (x % 2 ^ 63 / 2 ^ 52 - 1) := P2_le (by omega)
          have h2 : 2 ^ 52 * P2 1074 ≤ v := by rw [hc']; exact Nat.mul_le_mul (by omega) h1
          have h3 : P2 1126 = 2 ^ 52 * P2 1074 := by rw [← P2_def 52, ← P2_add]
          exact Nat.lt_irrefl _ (Nat.lt_of_lt_of_le hv (h3 ▸ h2))
      -- the letters: e the exponent field, m the significand, k the digits behind the point
      generalize hE : x % 2 ^ 63 / 2 ^ 52 = e at *
      generalize hM : 2 ^ 52 + x % 2 ^ 63 % 2 ^ 52 = m at *
      have hm1 : 2 ^ 52 ≤ m ∧ m < 2 ^ 53 := by omega
      have hxe : x = x / 2 ^ 63 * 2 ^ 63 + ((e - 1) * 2 ^ 52 + m) := by omega
      obtain ⟨k, hk⟩ : ∃ k, k = 1075 - e := ⟨_, rfl⟩
      have hk1 : 1 ≤ k ∧ k ≤ 52 := by omega
      rw [show 1074 - e = k - 1 by omega, show 1075 - e = k by omega]
      have hkk : 2 ^ k = 2 * 2 ^ (k - 1) := by rw [← Nat.pow_succ']; congr 1; omega
      have h52 : 2 ^ 52 = 2 ^ (52 - k) * 2 ^ k := by rw [← Nat.pow_add]; congr 1; omega
      have h63 : 2 ^ 63 = 2 ^ (63 - k) * 2 ^ k := by rw [← Nat.pow_add]; congr 1; omega
      have hN : (v + P2 1073) / U = (m + 2 ^ (k - 1)) / 2 ^ k := by
        have e1 : P2 1073 = 2 ^ (k - 1) * P2 (e - 1) := by rw [← P2_def (k - 1), ← P2_add]; congr 1; omega
        have e2 : U = 2 ^ k * P2 (e - 1) := by rw [U_eq, ← P2_def k, ← P2_add]; congr 1; omega
        rw [hc', e1, e2, ← Nat.add_mul, Nat.mul_div_mul_right _ _ (P2_pos _)]
      rw [hN]
      have hrw : (x + 2 ^ (k - 1)) / 2 ^ k * 2 ^ k = x / 2 ^ 63 * 2 ^ 63 + ((e - 1) * 2 ^ 52 + (m + 2 ^ (k - 1)) / 2 ^ k * 2 ^ k) := by
        have hsplit : x + 2 ^ (k - 1) = (m + 2 ^ (k - 1)) + (x / 2 ^ 63 * 2 ^ (63 - k) + (e - 1) * 2 ^ (52 - k)) * 2 ^ k := by
          rw [Nat.add_mul, Nat.mul_assoc, Nat.mul_assoc, ← h63, ← h52]
          omega
        rw [hsplit, Nat.add_mul_div_right _ _ (Nat.two_pow_pos k), Nat.add_mul, Nat.add_mul, Nat.mul_assoc _ (2 ^ (63 - k)), Nat.mul_assoc _ (2 ^ (52 - k)), ← h63, ← h52]
        omega
      have hN2 : (m + 2 ^ (k - 1)) / 2 ^ k * 2 ^ k ≤ 2 ^ 53 ∧ 2 ^ 52 ≤ (m + 2 ^ (k - 1)) / 2 ^ k * 2 ^ k := by
        have hp := Nat.two_pow_pos k
        constructor
        · have h53 : 2 ^ 53 = 2 ^ (53 - k) * 2 ^ k := by rw [← Nat.pow_add]; congr 1; omega
          rw [h53]
          apply Nat.mul_le_mul_right
          apply Nat.le_of_lt_succ
          rw [Nat.div_lt_iff_lt_mul hp, Nat.succ_mul, ← h53]
          omega
        · rw [h52]
          apply Nat.mul_le_mul_right
          rw [Nat.le_div_iff_mul_le hp, ← h52]
          omega
      rw [hrw]
      have hlt : (e - 1) * 2 ^ 52 + (m + 2 ^ (k - 1)) / 2 ^ k * 2 ^ k < 2047 * 2 ^ 52 := by
        generalize (m + 2 ^ (k - 1)) / 2 ^ k * 2 ^ k = q at hN2
        omega
      refine ⟨c3, ?_, ?_⟩
      · exact sum_lt _ _ (by omega) hlt
      · rw [hword]
        have := is_rung s (e - 1) _ hN2.1 (Or.inr hN2.2) hlt
        have eU : (m + 2 ^ (k - 1)) / 2 ^ k * 2 ^ k * 2 ^ (e - 1) = (m + 2 ^ (k - 1)) / 2 ^ k * U := by
          rw [Nat.mul_assoc, ← P2_def k, ← P2_def (e - 1), ← P2_add, U_eq]
          congr 2
          omega
        rw [eU] at this
        apply toInt_is this
        have : (m + 2 ^ (k - 1)) / 2 ^ k ≤ (m + 2 ^ (k - 1)) / 2 ^ k * 2 ^ k := Nat.le_mul_of_pos_right _ (Nat.two_pow_pos k)
        generalize (m + 2 ^ (k - 1)) / 2 ^ k * 2 ^ k = q at *
        generalize (m + 2 ^ (k - 1)) / 2 ^ k = r at *
        omega

end Go.Proofs.Qxb6618749a.Fl
