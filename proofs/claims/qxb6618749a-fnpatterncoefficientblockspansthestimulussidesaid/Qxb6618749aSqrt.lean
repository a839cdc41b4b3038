/-
  The square root on the words of doubles. No Go in sight.
-/
import Derived.Test.Qxb6618749aPixel
namespace Go.Proofs.Qxb6618749a.Fl
open Ieee

theorem rootFrom_bd (n : Nat) : ∀ todo root : Nat, root * root ≤ n → n < (root + 2 ^ todo) * (root + 2 ^ todo) →
    Datum.rootFrom n todo root * Datum.rootFrom n todo root ≤ n ∧ n < (Datum.rootFrom n todo root + 1) * (Datum.rootFrom n todo root + 1) := by
  intro todo
  induction todo with
  | zero => intro root h1 h2; exact ⟨h1, h2⟩
  | succ todo ih =>
    intro root h1 h2
    unfold Datum.rootFrom
    dsimp only
    rw [Nat.one_shiftLeft]
    by_cases hc : (root + 2 ^ todo) * (root + 2 ^ todo) ≤ n
    · rw [if_pos hc]
      apply ih _ hc
      rw [Nat.pow_succ] at h2
      rwa [show root + 2 ^ todo + 2 ^ todo = root + 2 ^ todo * 2 by omega]
    · rw [if_neg hc]
      exact ih _ h1 (by omega)

def moR (m t : Nat) : Nat := 108 - m.log2 + (t + (108 - m.log2)) % 2
def whR (m t : Nat) : Nat := Datum.rootFrom (m <<< moR m t) ((m <<< moR m t).log2 / 2 + 1) 0
def magR (m t : Nat) : Nat := 2 * whR m t + (whR m t * whR m t != m <<< moR m t).toNat

theorem sqrt_eq {x m t : Nat} (hx : double.read x = .number false m ((t : Int) - 1074)) (hm : m ≠ 0) :
    double.sqrt x = some (double.nearest false (magR m t) ((((t + 1072 - moR m t) / 2 : Nat) : Int) - (1074 + 0 : Nat))) := by
  unfold Format.sqrt
  rw [hx]
  unfold Datum.root
  dsimp only
  rw [if_neg hm, if_neg (by decide)]
  have e1 : 2 * (double.fractionBits + 2) - m.log2 = 108 - m.log2 := rfl
  rw [e1]
  have e2 : (((t : Int) - 1074 - (108 - m.log2 : Nat)) % 2).toNat = (t + (108 - m.log2)) % 2 := by omega
  rw [e2]
  have e3 : ((t : Int) - 1074 - (108 - m.log2 + (t + (108 - m.log2)) % 2 : Nat)) / 2 - 1 = (((t + 1072 - moR m t) / 2 : Nat) : Int) - (1074 + 0 : Nat) := by
    unfold moR
    omega
  rw [← e3]
  rfl

theorem moR_even (m t : Nat) : 2 * ((t + 1072 - moR m t) / 2) = t + 1072 - moR m t ∧ moR m t ≤ 109 := by
  unfold moR
  omega

theorem whR_bd (m t : Nat) : whR m t * whR m t ≤ m * 2 ^ moR m t ∧ m * 2 ^ moR m t < (whR m t + 1) * (whR m t + 1) := by
  unfold whR
  rw [← Nat.shiftLeft_eq]
  generalize m <<< moR m t = n
  apply rootFrom_bd
  · omega
  · rw [Nat.zero_add, ← Nat.pow_add]
    exact Nat.lt_of_lt_of_le Nat.lt_log2_self (two_pow_le_of_le (by omega))

theorem whR_ge (m t : Nat) (hm : m ≠ 0) : 2 ^ 54 ≤ whR m t := by
  have h1 := (whR_bd m t).2
  have h2 : 2 ^ 108 ≤ m * 2 ^ moR m t := by
    have h3 := Nat.log2_self_le hm
    have h4 : 2 ^ 108 ≤ 2 ^ (m.log2 + moR m t) := two_pow_le_of_le (by unfold moR; omega)
    rw [Nat.pow_add] at h4
    exact Nat.le_trans h4 (Nat.mul_le_mul_right _ h3)
  by_cases hc : 2 ^ 54 ≤ whR m t
  · exact hc
  · have : (whR m t + 1) * (whR m t + 1) ≤ 2 ^ 54 * 2 ^ 54 := Nat.mul_le_mul (by omega) (by omega)
    omega

/-- mag^2 against 4 n. -/
theorem magR_bd (m t : Nat) (hm : m ≠ 0) :
    2 ^ 55 ≤ magR m t ∧ 2 ^ 53 * (magR m t * magR m t) ≤ 2 ^ 53 * (4 * (m * 2 ^ moR m t)) + magR m t * magR m t ∧ 2 ^ 53 * (4 * (m * 2 ^ moR m t)) ≤ 2 ^ 53 * (magR m t * magR m t) + magR m t * magR m t := by
  have h1 := whR_bd m t
  have h2 := whR_ge m t hm
  unfold magR
  rw [Nat.shiftLeft_eq]
  generalize m * 2 ^ moR m t = n at *
  generalize whR m t = W at *
  have h3 : 2 ^ 54 * W ≤ W * W := Nat.mul_le_mul_right W h2
  have e1 : (W + 1) * (W + 1) = W * W + 2 * W + 1 := by rw [Nat.add_mul, Nat.mul_add]; omega
  by_cases hc : W * W = n
  · have : (W * W != n) = false := by simp [hc]
    rw [this, Bool.toNat_false, Nat.add_zero]
    have e2 : 2 * W * (2 * W) = 4 * (W * W) := by rw [Nat.mul_mul_mul_comm]
    rw [e2]
    omega
  · have : (W * W != n) = true := by simpa using hc
    rw [this, Bool.toNat_true]
    have e2 : (2 * W + 1) * (2 * W + 1) = 4 * (W * W) + 4 * W + 1 := by
      rw [Nat.add_mul, Nat.mul_add, Nat.mul_mul_mul_comm]
      omega
    rw [e2]
    omega

theorem sq_le {a b : Nat} (h : a ≤ b) : a * a ≤ b * b := Nat.mul_le_mul h h

theorem ar_sq {z A Y : Nat} (z1 : 2 ^ 53 * z ≤ 2 ^ 53 * A + A) (z2 : 2 ^ 53 * A ≤ 2 ^ 53 * z + A) (k2 : 2 ^ 53 * (A * A) ≤ 2 ^ 53 * Y + A * A) (k3 : 2 ^ 53 * Y ≤ 2 ^ 53 * (A * A) + A * A) :
    2 ^ 51 * (z * z) ≤ 2 ^ 51 * Y + Y ∧ 2 ^ 51 * Y ≤ 2 ^ 51 * (z * z) + Y := by
  have s1 : 2 ^ 53 * z ≤ (2 ^ 53 + 1) * A := by omega
  have s2 : (2 ^ 53 - 1) * A ≤ 2 ^ 53 * z := by omega
  have q1 := sq_le s1
  have q2 := sq_le s2
  rw [Nat.mul_mul_mul_comm, Nat.mul_mul_mul_comm (2 ^ 53 + 1)] at q1
  rw [Nat.mul_mul_mul_comm, Nat.mul_mul_mul_comm (2 ^ 53)] at q2
  generalize z * z = Z2 at *
  generalize A * A = A2 at *
  omega

/-- The root of a finite number that is not zero. -/
theorem sqrt_is {x a : Nat} (hx : Is x false a) (ha : a ≠ 0) (hb : a ≤ P2 2096) :
    ∃ w z, double.sqrt x = some w ∧ Is w false z ∧ 2 ^ 51 * (z * z) ≤ 2 ^ 51 * (a * U) + a * U ∧ 2 ^ 51 * (a * U) ≤ 2 ^ 51 * (z * z) + a * U ∧ P2 55 ≤ z := by
  obtain ⟨m, t, rx, ea, hm53, -⟩ := is_open hx
  have hm : m ≠ 0 := by
    intro h0
    rw [h0, Nat.zero_mul] at ea
    exact ha ea
  have hw := sqrt_eq rx hm
  obtain ⟨g1, g2, g3⟩ := magR_bd m t hm
  obtain ⟨he, hmo⟩ := moR_even m t
  have hne : magR m t ≠ 0 := by omega
  generalize hp : (t + 1072 - moR m t) / 2 = p at *
  have hz := zv_bd2 (magR m t) p 0 hne
  rw [show P2 0 = 1 from by rw [P2_def], Nat.mul_one, Nat.mul_one] at hz
  -- the square of the exact number
  have eA : 4 * (m * 2 ^ moR m t) * (P2 p * P2 p) = a * U := by
    rw [ea, U_eq, ← P2_def, ← P2_2, ← P2_add]
    have : P2 2 * (m * P2 (moR m t)) * P2 (p + p) = m * (P2 2 * P2 (moR m t) * P2 (p + p)) := by ac_rfl
    rw [this, ← P2_add, ← P2_add, Nat.mul_assoc, ← P2_add]
    congr 2
    omega
  have hA : magR m t * P2 p * (magR m t * P2 p) = magR m t * magR m t * (P2 p * P2 p) := by ac_rfl
  have k2 := Nat.mul_le_mul_right (P2 p * P2 p) g2
  have k3 := Nat.mul_le_mul_right (P2 p * P2 p) g3
  rw [Nat.add_mul, Nat.mul_assoc (2 ^ 53), Nat.mul_assoc (2 ^ 53), ← hA, eA] at k2 k3
  have hbig : 2 * P2 55 ≤ magR m t * P2 p := by
    have h55 : P2 55 ≤ magR m t := by rw [P2_def]; exact g1
    have h1 : P2 1 ≤ P2 p := P2_le (by omega)
    rw [Nat.mul_comm, ← P2_1]
    exact Nat.mul_le_mul h55 h1
  have hbig2 : 2 ^ 52 ≤ magR m t * P2 p := by
    rw [P2_def] at hbig
    omega
  rw [Nat.max_eq_left hbig2] at hz
  have hhi : a * U < P2 4192 := Nat.lt_of_le_of_lt (mul_le_P2 hb U_le) (P2_lt (by omega))
  have hfin : magR m t * P2 p < P2 (0 + 2097) := by
    by_cases hc : magR m t * P2 p < P2 (0 + 2097)
    · exact hc
    · exfalso
      have := sq_le (Nat.le_of_not_lt hc)
      rw [← P2_add] at this
      have e : P2 (0 + 2097 + (0 + 2097)) = 4 * P2 4192 := by rw [← P2_2, ← P2_add]
      rw [e] at this
      generalize magR m t * P2 p * (magR m t * P2 p) = A2 at *
      omega
  refine ⟨_, _, hw, near_fin2 _ _ _ _ hne hfin, ?_⟩
  generalize zv (magR m t) p 0 = z at *
  generalize magR m t * P2 p = A at *
  obtain ⟨z1, z2⟩ := hz
  refine ⟨(ar_sq z1 z2 k2 k3).1, (ar_sq z1 z2 k2 k3).2, ?_⟩
  clear k2 k3 hA hhi hfin eA he
  generalize P2 55 = B at *
  omega

theorem sqrt_zero {x : Nat} {s : Bool} (hx : Is x s 0) : ∃ w, double.sqrt x = some w ∧ Is w s 0 := by
  obtain ⟨m, t, rx, ea, -, -⟩ := is_open hx
  have hm : m = 0 := (Nat.mul_eq_zero.1 ea.symm).resolve_right (Nat.ne_of_gt (P2_pos t))
  subst hm
  refine ⟨double.nearest s 0 ((t : Int) - 1074), ?_, near_zero _ _⟩
  unfold Format.sqrt
  rw [rx]
  rfl

/-- Four times the number: twice the root. -/
theorem sqrt_four {x x' a w w' z z' : Nat} {r r' s : Bool} (hx : Is x false a) (hx' : Is x' s (4 * a)) (hs : s = false) (ha : 2 ^ 52 ≤ a) (hw : double.sqrt x = some w) (hw' : double.sqrt x' = some w') (hz : Is w r z) (hz' : Is w' r' z') :
    z' = 2 * z := by
  subst hs
  obtain ⟨m, t, rx, ea, hm, cm⟩ := is_open hx
  obtain ⟨n, j, ry, eb, hn, cn⟩ := is_open hx'
  have h52 : 2 ^ 52 ≤ m := by
    rcases cm with rfl | h
    · rw [show P2 0 = 1 from by rw [P2_def]] at ea
      omega
    · exact h
  have e : m * P2 (t + 2) = n * P2 j := by
    rw [← eb, ea, P2_add, P2_2]
    ac_rfl
  obtain ⟨e1, e2⟩ := canon_unique e hm hn (Or.inr h52) cn
  subst e1 e2
  have q1 := sqrt_eq rx (by omega)
  have q2 := sqrt_eq ry (by omega)
  have emo : moR m (t + 2) = moR m t := by unfold moR; omega
  have ewh : whR m (t + 2) = whR m t := by unfold whR; rw [emo]
  have emag : magR m (t + 2) = magR m t := by unfold magR; rw [emo, ewh]
  have hmo := (moR_even m t).2
  rw [emo, emag, show (t + 2 + 1072 - moR m t) / 2 = (t + 1072 - moR m t) / 2 + 1 by omega] at q2
  have hne : magR m t ≠ 0 := by
    have := (magR_bd m t (by omega)).1
    omega
  rw [hw] at q1
  rw [hw'] at q2
  injection q1 with q1
  injection q2 with q2
  have o1 := near_or false (magR m t) ((t + 1072 - moR m t) / 2) 0 hne
  have o2 := near_or false (magR m t) ((t + 1072 - moR m t) / 2 + 1) 0 hne
  rw [← q1] at o1
  rw [← q2] at o2
  have z1 : z = zv (magR m t) ((t + 1072 - moR m t) / 2) 0 := by
    rcases o1 with o | o
    · exact (is_fun hz o).2
    · exact (not_inf hz o).elim
  have z2 : z' = zv (magR m t) ((t + 1072 - moR m t) / 2 + 1) 0 := by
    rcases o2 with o | o
    · exact (is_fun hz' o).2
    · exact (not_inf hz' o).elim
  rw [z1, z2]
  apply zv_twice
  · omega
  · omega

end Go.Proofs.Qxb6618749a.Fl
