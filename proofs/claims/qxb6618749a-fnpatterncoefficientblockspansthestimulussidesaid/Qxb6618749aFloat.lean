/-
  DOUBLES AS WHOLE NUMBERS: every finite double is v units of 2^-1074. Each operation of the model (Ieee/Word.lean, Ieee/Arith.lean) as an
  inequality on those whole numbers. No Go in sight.
-/
import Ieee.Arith
namespace Go.Proofs.Qxb6618749a.Fl
open Ieee

/-- The word x is the finite number '(-1)^s * v * 2^-1074', read with its canonical significand. -/
def Is (x : Nat) (s : Bool) (v : Nat) : Prop :=
  ∃ m t : Nat, double.read x = .number s m ((t : Int) - 1074) ∧ m * 2 ^ t = v ∧ m < 2 ^ 53 ∧ (t = 0 ∨ 2 ^ 52 ≤ m)

theorem binade_eq : double.binade = 2 ^ 52 := rfl
theorem weight_eq : double.signWeight = 2 ^ 63 := rfl
theorem inf_eq : double.infRung = 2047 * 2 ^ 52 := rfl
theorem least_eq : double.leastPlace = -1074 := by decide

theorem read_word (s : Bool) (r : Nat) (h : r < 2 ^ 63) :
    double.read (double.word s r) =
      if r < 2 ^ 52 then .number s r (-1074)
      else if r < 2047 * 2 ^ 52 then .number s (2 ^ 52 + r % 2 ^ 52) (-1074 + (r / 2 ^ 52 - 1 : Nat))
      else if r = 2047 * 2 ^ 52 then .infinity s
      else .nan s (r - 2047 * 2 ^ 52) := by
  have e1 : double.word s r / 2 ^ 63 % 2 = if s then 1 else 0 := by
    cases s
    · show r / 2 ^ 63 % 2 = 0
      omega
    · show (2 ^ 63 + r) / 2 ^ 63 % 2 = 1
      omega
  have e2 : double.word s r % 2 ^ 63 = r := by
    cases s
    · show r % 2 ^ 63 = r
      omega
    · show (2 ^ 63 + r) % 2 ^ 63 = r
      omega
  unfold Format.read
  rw [weight_eq, binade_eq, inf_eq, least_eq, e1, e2]
  cases s <;> rfl

theorem is_rung (s : Bool) (t kept : Nat) (hk : kept ≤ 2 ^ 53) (h : t = 0 ∨ 2 ^ 52 ≤ kept) (hinf : t * 2 ^ 52 + kept < 2047 * 2 ^ 52) :
    Is (double.word s (t * 2 ^ 52 + kept)) s (kept * 2 ^ t) := by
  have hr := read_word s (t * 2 ^ 52 + kept) (by omega)
  by_cases h1 : kept < 2 ^ 52
  · have ht : t = 0 := by omega
    subst ht
    rw [if_pos (by omega)] at hr
    refine ⟨kept, 0, ?_, rfl, by omega, Or.inl rfl⟩
    rw [hr]
    simp
  · by_cases h2 : kept < 2 ^ 53
    · rw [if_neg (by omega), if_pos hinf] at hr
      refine ⟨kept, t, ?_, rfl, h2, by omega⟩
      rw [hr]
      congr 1 <;> omega
    · have hk2 : kept = 2 ^ 53 := by omega
      rw [if_neg (by omega), if_pos hinf] at hr
      refine ⟨2 ^ 52, t + 1, ?_, ?_, by omega, by omega⟩
      · rw [hr]
        congr 1 <;> omega
      · rw [hk2, Nat.pow_succ 2 t]
        omega

/-- Rounding to a whole number of '2 ^ drop': within half of it. -/
theorem cut_even (neg : Bool) (n drop : Nat) :
    2 * (Toward.even.cut neg n drop * 2 ^ drop) ≤ 2 * n + 2 ^ drop ∧ 2 * n ≤ 2 * (Toward.even.cut neg n drop * 2 ^ drop) + 2 ^ drop := by
  unfold Toward.cut
  dsimp only
  by_cases hd : drop ≤ n.log2 + 2
  · rw [Nat.min_eq_left hd, Nat.one_shiftLeft]
    have hg : 0 < 2 ^ drop := Nat.two_pow_pos _
    generalize 2 ^ drop = g at hg
    have h1 := Nat.div_add_mod n g
    have h2 := Nat.mod_lt n hg
    rw [Nat.mul_comm] at h1
    generalize n / g = l at h1
    generalize n % g = r at h1 h2
    subst h1
    by_cases hc : (decide (g < 2 * r) || (g == 2 * r && l % 2 == 1)) = true
    · rw [hc]
      simp at hc
      show 2 * ((l + 1) * g) ≤ _ ∧ _ ≤ 2 * ((l + 1) * g) + g
      rw [Nat.add_mul]
      omega
    · rw [Bool.eq_false_iff.2 hc]
      simp at hc
      show 2 * ((l + 0) * g) ≤ _ ∧ _ ≤ 2 * ((l + 0) * g) + g
      rw [Nat.add_zero]
      omega
  · have hd' : n.log2 + 2 ≤ drop := by omega
    rw [Nat.min_eq_right hd', Nat.one_shiftLeft]
    have hn : n < 2 ^ (n.log2 + 1) := Nat.lt_log2_self
    have hp : 2 ^ (n.log2 + 2) ≤ 2 ^ drop := Nat.pow_le_pow_right (by omega) hd'
    rw [Nat.pow_succ] at hp
    rw [show n.log2 + 2 = (n.log2 + 1) + 1 from rfl, Nat.pow_succ]
    rw [Nat.div_eq_of_lt (by omega), Nat.mod_eq_of_lt (by omega)]
    have h1 : (decide (2 ^ (n.log2 + 1) * 2 < 2 * n) || (2 ^ (n.log2 + 1) * 2 == 2 * n && 0 % 2 == 1)) = false := by
      rw [decide_eq_false (by omega)]
      simp
    rw [h1]
    simp
    omega


/-! ### The nearest double of 'mag * 2 ^ (p - 1074 - d)': 'zv mag p d' units of 2^-1074 -/
/-- The place of the last digit kept, counted from '2 ^ (-1074 - d)'. -/
def qv (mag p d : Nat) : Nat := max (p + mag.log2 - 52) d
def cv (mag p d : Nat) : Nat := Toward.even.cut false (mag <<< (p - qv mag p d)) (qv mag p d - p)
def zv (mag p d : Nat) : Nat := cv mag p d * 2 ^ (qv mag p d - d)

theorem two_pow_le_of_le {a b : Nat} (h : a ≤ b) : 2 ^ a ≤ 2 ^ b := Nat.pow_le_pow_right (by omega) h
theorem two_pow_lt_of_lt {a b : Nat} (h : a < b) : 2 ^ a < 2 ^ b := Nat.pow_lt_pow_right (by omega) h
theorem lt_of_two_pow_lt {a b : Nat} (h : 2 ^ a < 2 ^ b) : a < b := (Nat.pow_lt_pow_iff_right (by omega)).1 h
theorem mag_lo {mag : Nat} (h : mag ≠ 0) (p : Nat) : 2 ^ (p + mag.log2) ≤ mag * 2 ^ p := by
  rw [Nat.pow_add, Nat.mul_comm]
  exact Nat.mul_le_mul_right _ (Nat.log2_self_le h)
theorem mag_hi (mag p : Nat) : mag * 2 ^ p < 2 ^ (p + mag.log2 + 1) := by
  rw [Nat.add_assoc, Nat.pow_add, Nat.mul_comm]
  exact Nat.mul_lt_mul_of_pos_left Nat.lt_log2_self (Nat.two_pow_pos _)

theorem cv_bd (mag p d : Nat) : 2 * (cv mag p d * 2 ^ qv mag p d) ≤ 2 * (mag * 2 ^ p) + 2 ^ qv mag p d ∧ 2 * (mag * 2 ^ p) ≤ 2 * (cv mag p d * 2 ^ qv mag p d) + 2 ^ qv mag p d := by
  unfold cv
  generalize qv mag p d = q
  by_cases h : q ≤ p
  · have := cut_even false (mag <<< (p - q)) (q - p)
    rw [show q - p = 0 by omega] at this ⊢
    rw [Nat.shiftLeft_eq] at this ⊢
    have e : mag * 2 ^ p = mag * 2 ^ (p - q) * 2 ^ q := by rw [Nat.mul_assoc, ← Nat.pow_add, Nat.sub_add_cancel h]
    rw [e]
    generalize Toward.even.cut false (mag * 2 ^ (p - q)) 0 = c at this
    have e2 : c = mag * 2 ^ (p - q) := by
      rw [Nat.pow_zero] at this
      omega
    rw [e2]
    have := Nat.two_pow_pos q
    omega
  · have := cut_even false (mag <<< (p - q)) (q - p)
    rw [show p - q = 0 by omega, Nat.shiftLeft_zero] at this ⊢
    generalize Toward.even.cut false mag (q - p) = c at this
    have e : 2 ^ q = 2 ^ (q - p) * 2 ^ p := by rw [← Nat.pow_add, Nat.sub_add_cancel (by omega)]
    rw [e]
    have h1 := Nat.mul_le_mul_right (2 ^ p) this.1
    have h2 := Nat.mul_le_mul_right (2 ^ p) this.2
    simp only [Nat.add_mul, Nat.mul_assoc] at h1 h2 ⊢
    exact ⟨h1, h2⟩

theorem qv_ge (mag p d : Nat) : d ≤ qv mag p d := Nat.le_max_right _ _

theorem zv_mul (mag p d : Nat) : zv mag p d * 2 ^ d = cv mag p d * 2 ^ qv mag p d := by
  unfold zv
  rw [Nat.mul_assoc, ← Nat.pow_add, Nat.sub_add_cancel (qv_ge _ _ _)]

theorem cv_le (mag p d : Nat) : cv mag p d ≤ 2 ^ 53 := by
  have h := (cv_bd mag p d).1
  have h2 := mag_hi mag p
  have h3 : 2 ^ (p + mag.log2 + 1) ≤ 2 ^ 53 * 2 ^ qv mag p d := by
    rw [← Nat.pow_add]
    apply two_pow_le_of_le
    unfold qv
    omega
  have hpos := Nat.two_pow_pos (qv mag p d)
  generalize cv mag p d = c at *
  generalize 2 ^ qv mag p d = Q at *
  by_cases hc : c ≤ 2 ^ 53
  · exact hc
  · have h4 : (2 ^ 53 + 1) * Q ≤ c * Q := Nat.mul_le_mul_right _ (by omega)
    rw [Nat.add_mul] at h4
    omega

theorem cv_ge (mag p d : Nat) (hm : mag ≠ 0) (h : d ≤ p + mag.log2 - 52) (h52 : 52 ≤ p + mag.log2) : 2 ^ 52 ≤ cv mag p d := by
  have hb := (cv_bd mag p d).2
  have hq : qv mag p d = p + mag.log2 - 52 := by unfold qv; omega
  have h2 := mag_lo hm p
  have h3 : 2 ^ (p + mag.log2) = 2 ^ 52 * 2 ^ qv mag p d := by
    rw [← Nat.pow_add, hq]
    congr 1
    omega
  have hpos := Nat.two_pow_pos (qv mag p d)
  rw [h3] at h2
  generalize cv mag p d = c at *
  generalize 2 ^ qv mag p d = Q at *
  by_cases hc : 2 ^ 52 ≤ c
  · exact hc
  · have h4 : c * Q ≤ (2 ^ 52 - 1) * Q := Nat.mul_le_mul_right _ (by omega)
    rw [Nat.sub_mul] at h4
    omega

theorem nearest_eq (s : Bool) (mag p d : Nat) (hm : mag ≠ 0) :
    double.nearest s mag ((p : Int) - (1074 + d : Nat)) = double.word s (min ((qv mag p d - d) * 2 ^ 52 + cv mag p d) (2047 * 2 ^ 52)) := by
  unfold Format.nearest
  rw [if_neg hm]
  dsimp only
  rw [least_eq, binade_eq, inf_eq]
  have hl : max ((p : Int) - (1074 + d : Nat) + mag.log2 - double.fractionBits) (-1074) = (qv mag p d : Int) - (1074 + d : Nat) := by
    show max ((p : Int) - (1074 + d : Nat) + mag.log2 - (52 : Nat)) (-1074) = _
    unfold qv
    omega
  rw [hl]
  have e1 : ((p : Int) - (1074 + d : Nat) - ((qv mag p d : Int) - (1074 + d : Nat))).toNat = p - qv mag p d := by omega
  have e2 : ((qv mag p d : Int) - (1074 + d : Nat) - ((p : Int) - (1074 + d : Nat))).toNat = qv mag p d - p := by omega
  have e3 : ((qv mag p d : Int) - (1074 + d : Nat) - -1074).toNat = qv mag p d - d := by omega
  rw [e1, e2, e3]
  rfl

theorem near_zero (s : Bool) (place : Int) : Is (double.nearest s 0 place) s 0 := by
  unfold Format.nearest
  rw [if_pos rfl]
  have := is_rung s 0 0 (by omega) (Or.inl rfl) (by omega)
  simpa using this

theorem rung_norm (mag p d : Nat) (hm : mag ≠ 0) : qv mag p d - d = 0 ∨ 2 ^ 52 ≤ cv mag p d := by
  by_cases h : d < p + mag.log2 - 52
  · exact Or.inr (cv_ge mag p d hm (by omega) (by omega))
  · left
    unfold qv
    omega

/-- Below 2^1023 nothing overflows. -/
theorem near_fin (s : Bool) (mag p d : Nat) (hm : mag ≠ 0) (h : mag * 2 ^ p < 2 ^ (d + 2097)) :
    Is (double.nearest s mag ((p : Int) - (1074 + d : Nat))) s (zv mag p d) := by
  have h1 := mag_lo hm p
  have h2 : p + mag.log2 < d + 2097 := lt_of_two_pow_lt (Nat.lt_of_le_of_lt h1 h)
  have hq : qv mag p d - d ≤ 2044 := by unfold qv; omega
  have hc := cv_le mag p d
  rw [nearest_eq s mag p d hm, Nat.min_eq_left (by omega)]
  exact is_rung s _ _ hc (rung_norm mag p d hm) (by omega)

theorem read_inf (s : Bool) : double.read (double.word s (2047 * 2 ^ 52)) = .infinity s := by
  rw [read_word s _ (by omega), if_neg (by omega), if_neg (by omega), if_pos rfl]

/-- From 2^1024 on all is infinity. -/
theorem near_big (s : Bool) (mag p d : Nat) (hm : mag ≠ 0) (h : 2 ^ (d + 2098) ≤ mag * 2 ^ p) :
    double.read (double.nearest s mag ((p : Int) - (1074 + d : Nat))) = .infinity s := by
  have h1 := mag_hi mag p
  have h2 : d + 2098 < p + mag.log2 + 1 := lt_of_two_pow_lt (Nat.lt_of_le_of_lt h h1)
  have hq : 2046 ≤ qv mag p d - d := by unfold qv; omega
  have hc := cv_ge mag p d hm (by omega) (by omega)
  rw [nearest_eq s mag p d hm, Nat.min_eq_right (by omega)]
  exact read_inf s

theorem near_or (s : Bool) (mag p d : Nat) (hm : mag ≠ 0) :
    Is (double.nearest s mag ((p : Int) - (1074 + d : Nat))) s (zv mag p d) ∨ double.read (double.nearest s mag ((p : Int) - (1074 + d : Nat))) = .infinity s := by
  have hc := cv_le mag p d
  rw [nearest_eq s mag p d hm]
  by_cases h : (qv mag p d - d) * 2 ^ 52 + cv mag p d < 2047 * 2 ^ 52
  · rw [Nat.min_eq_left (by omega)]
    exact Or.inl (is_rung s _ _ hc (rung_norm mag p d hm) h)
  · rw [Nat.min_eq_right (by omega)]
    exact Or.inr (read_inf s)

/-- The error: at most half of the last digit kept: relatively 2^-53, or half a unit. -/
theorem zv_bd (mag p d : Nat) (hm : mag ≠ 0) :
    2 ^ 53 * (zv mag p d * 2 ^ d) ≤ 2 ^ 53 * (mag * 2 ^ p) + max (mag * 2 ^ p) (2 ^ 52 * 2 ^ d) ∧
    2 ^ 53 * (mag * 2 ^ p) ≤ 2 ^ 53 * (zv mag p d * 2 ^ d) + max (mag * 2 ^ p) (2 ^ 52 * 2 ^ d) := by
  rw [zv_mul]
  have hb := cv_bd mag p d
  have hq : 2 ^ 52 * 2 ^ qv mag p d ≤ max (mag * 2 ^ p) (2 ^ 52 * 2 ^ d) := by
    by_cases h : d < p + mag.log2 - 52
    · have hq : qv mag p d = p + mag.log2 - 52 := by unfold qv; omega
      rw [← Nat.pow_add, hq, show 52 + (p + mag.log2 - 52) = p + mag.log2 by omega]
      exact Nat.le_trans (mag_lo hm p) (Nat.le_max_left _ _)
    · have hq : qv mag p d = d := by unfold qv; omega
      rw [hq]
      exact Nat.le_max_right _ _
  generalize max (mag * 2 ^ p) (2 ^ 52 * 2 ^ d) = M at *
  generalize cv mag p d * 2 ^ qv mag p d = C at *
  generalize 2 ^ qv mag p d = Q at *
  omega

/-- A number that the format has is kept as it is. -/
theorem zv_exact (mag p d m0 e0 : Nat) (hm : mag ≠ 0) (h : mag * 2 ^ p = m0 * 2 ^ e0) (h53 : m0 < 2 ^ 53) (he : d ≤ e0) : zv mag p d * 2 ^ d = mag * 2 ^ p := by
  rw [zv_mul]
  have hb := cv_bd mag p d
  have hq : qv mag p d ≤ e0 := by
    have h1 := mag_lo hm p
    have h2 : m0 * 2 ^ e0 < 2 ^ 53 * 2 ^ e0 := Nat.mul_lt_mul_of_pos_right h53 (Nat.two_pow_pos _)
    rw [← Nat.pow_add] at h2
    have := lt_of_two_pow_lt (Nat.lt_of_le_of_lt (h ▸ h1) h2)
    unfold qv
    omega
  have e : m0 * 2 ^ e0 = m0 * 2 ^ (e0 - qv mag p d) * 2 ^ qv mag p d := by rw [Nat.mul_assoc, ← Nat.pow_add, Nat.sub_add_cancel hq]
  rw [h, e] at hb ⊢
  generalize m0 * 2 ^ (e0 - qv mag p d) = a at *
  have hpos := Nat.two_pow_pos (qv mag p d)
  generalize 2 ^ qv mag p d = Q at *
  generalize cv mag p d = c at *
  rcases Nat.lt_trichotomy c a with hlt | heq | hgt
  · have := Nat.mul_le_mul_right Q (show c + 1 ≤ a by omega)
    rw [Nat.add_mul] at this
    omega
  · rw [heq]
  · have := Nat.mul_le_mul_right Q (show a + 1 ≤ c by omega)
    rw [Nat.add_mul] at this
    omega

/-- Twice the number, twice the answer (where the answer is not subnormal). -/
theorem zv_twice (mag p d : Nat) (h : d ≤ p + mag.log2 - 52) (h52 : 52 ≤ p + mag.log2) : zv mag (p + 1) d = 2 * zv mag p d := by
  have hq : qv mag p d = p + mag.log2 - 52 := by unfold qv; omega
  have hq2 : qv mag (p + 1) d = qv mag p d + 1 := by unfold qv; omega
  unfold zv cv
  rw [hq2, show p + 1 - (qv mag p d + 1) = p - qv mag p d by omega, show qv mag p d + 1 - (p + 1) = qv mag p d - p by omega,
    show qv mag p d + 1 - d = (qv mag p d - d) + 1 by omega, Nat.pow_succ]
  generalize Toward.even.cut false _ _ = c
  rw [← Nat.mul_assoc, Nat.mul_comm]

/-! ### Powers of two behind a name that nothing unfolds, so that no tactic writes them out -/
def P2 (n : Nat) : Nat := if h : n = 0 then 1 else 2 * P2 (n - 1)
theorem P2_def (n : Nat) : P2 n = 2 ^ n := by
  induction n with
  | zero => rw [P2]; rfl
  | succ n ih => rw [P2, dif_neg (by omega), Nat.add_sub_cancel, ih, Nat.pow_succ, Nat.mul_comm]
theorem P2_pos (n : Nat) : 0 < P2 n := by rw [P2_def]; exact Nat.two_pow_pos n
theorem P2_add (a b : Nat) : P2 (a + b) = P2 a * P2 b := by simp only [P2_def]; exact Nat.pow_add 2 a b
theorem P2_le {a b : Nat} (h : a ≤ b) : P2 a ≤ P2 b := by simp only [P2_def]; exact two_pow_le_of_le h
theorem P2_lt {a b : Nat} (h : a < b) : P2 a < P2 b := by simp only [P2_def]; exact two_pow_lt_of_lt h
theorem lt_of_P2_lt {a b : Nat} (h : P2 a < P2 b) : a < b := by simp only [P2_def] at h; exact lt_of_two_pow_lt h

theorem zv_bd2 (mag p d : Nat) (hm : mag ≠ 0) :
    2 ^ 53 * (zv mag p d * P2 d) ≤ 2 ^ 53 * (mag * P2 p) + max (mag * P2 p) (2 ^ 52 * P2 d) ∧
    2 ^ 53 * (mag * P2 p) ≤ 2 ^ 53 * (zv mag p d * P2 d) + max (mag * P2 p) (2 ^ 52 * P2 d) := by
  simp only [P2_def]
  exact zv_bd mag p d hm
theorem zv_exact2 (mag p d m0 e0 : Nat) (hm : mag ≠ 0) (h : mag * P2 p = m0 * P2 e0) (h53 : m0 < 2 ^ 53) (he : d ≤ e0) : zv mag p d * P2 d = mag * P2 p := by
  simp only [P2_def] at h ⊢
  exact zv_exact mag p d m0 e0 hm h h53 he
theorem near_fin2 (s : Bool) (mag p d : Nat) (hm : mag ≠ 0) (h : mag * P2 p < P2 (d + 2097)) :
    Is (double.nearest s mag ((p : Int) - (1074 + d : Nat))) s (zv mag p d) := by
  simp only [P2_def] at h
  exact near_fin s mag p d hm h
theorem near_big2 (s : Bool) (mag p d : Nat) (hm : mag ≠ 0) (h : P2 (d + 2098) ≤ mag * P2 p) :
    double.read (double.nearest s mag ((p : Int) - (1074 + d : Nat))) = .infinity s := by
  simp only [P2_def] at h
  exact near_big s mag p d hm h

/-- The word x is finite: its significand m, its last place t, in the names that nothing unfolds. -/
theorem is_open {x v : Nat} {s : Bool} (h : Is x s v) :
    ∃ m t : Nat, double.read x = .number s m ((t : Int) - 1074) ∧ v = m * P2 t ∧ m < 2 ^ 53 ∧ (t = 0 ∨ 2 ^ 52 ≤ m) := by
  obtain ⟨m, t, h1, h2, h3, h4⟩ := h
  exact ⟨m, t, h1, by rw [P2_def]; exact h2.symm, h3, h4⟩

end Go.Proofs.Qxb6618749a.Fl
