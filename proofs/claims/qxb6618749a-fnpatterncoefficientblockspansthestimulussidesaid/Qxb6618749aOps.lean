/-
  THE OPERATIONS ON DOUBLES AS WHOLE NUMBERS of units of 2^-1074: order, product, quotient, difference, root. No Go in sight.
-/
import Derived.Test.Qxb6618749aFloat
namespace Go.Proofs.Qxb6618749a.Fl
open Ieee

/-- One, in units. -/
def U : Nat := P2 1074
theorem U_eq : U = P2 1074 := rfl
theorem U_pos : 0 < U := P2_pos _

def sg (s : Bool) (v : Nat) : Int := if s then -(v : Int) else (v : Int)

theorem compare_int (a b : Int) : compare a b = if a < b then .lt else if a = b then .eq else .gt := rfl

theorem signed_eq (s : Bool) (m up : Nat) : signed s m up = sg s (m * 2 ^ up) := by
  unfold signed sg
  rw [Nat.shiftLeft_eq]

theorem sg_scale (s : Bool) (a g : Nat) : sg s (a * g) = sg s a * (g : Int) := by
  unfold sg
  split
  · rw [Int.natCast_mul, Int.neg_mul]
  · rw [Int.natCast_mul]

/-- Two finite numbers stand to each other as their units do. -/
theorem order_is {x y a b : Nat} {s t : Bool} (hx : Is x s a) (hy : Is y t b) :
    double.order x y = some (if sg s a < sg t b then .lt else if sg s a = sg t b then .eq else .gt) := by
  obtain ⟨m, i, hx, rfl, -, -⟩ := hx
  obtain ⟨n, j, hy, rfl, -, -⟩ := hy
  unfold Format.order
  rw [hx, hy]
  unfold Datum.order
  dsimp only
  rw [compare_int, signed_eq, signed_eq]
  have e1 : ((i : Int) - 1074 - min ((i : Int) - 1074) ((j : Int) - 1074)).toNat = i - min i j := by omega
  have e2 : ((j : Int) - 1074 - min ((i : Int) - 1074) ((j : Int) - 1074)).toNat = j - min i j := by omega
  rw [e1, e2]
  have f1 : m * 2 ^ i = m * 2 ^ (i - min i j) * 2 ^ min i j := by rw [Nat.mul_assoc, ← Nat.pow_add, Nat.sub_add_cancel (Nat.min_le_left _ _)]
  have f2 : n * 2 ^ j = n * 2 ^ (j - min i j) * 2 ^ min i j := by rw [Nat.mul_assoc, ← Nat.pow_add, Nat.sub_add_cancel (Nat.min_le_right _ _)]
  rw [f1, f2, sg_scale s _ (2 ^ min i j), sg_scale t _ (2 ^ min i j)]
  have hg : (0 : Int) < ((2 ^ min i j : Nat) : Int) := Int.natCast_pos.2 (Nat.two_pow_pos _)
  generalize sg s (m * 2 ^ (i - min i j)) = A
  generalize sg t (n * 2 ^ (j - min i j)) = B
  generalize ((2 ^ min i j : Nat) : Int) = g at hg
  have h1 : A * g < B * g ↔ A < B := Int.mul_lt_mul_right hg
  have h2 : A * g = B * g ↔ A = B := ⟨fun h => Int.eq_of_mul_eq_mul_right (by omega) h, fun h => by rw [h]⟩
  simp only [h1, h2]

/-! ### The product -/
theorem mul_eq {x y a b : Nat} {s t : Bool} (hx : Is x s a) (hy : Is y t b) :
    ∃ mag p : Nat, double.mul x y = some (double.nearest (s ^^ t) mag ((p : Int) - (1074 + 1074 : Nat))) ∧ mag * P2 p = a * b := by
  obtain ⟨m, i, rx, rfl, -, -⟩ := is_open hx
  obtain ⟨n, j, ry, rfl, -, -⟩ := is_open hy
  refine ⟨m * n, i + j, ?_, ?_⟩
  · unfold Format.mul
    rw [rx, ry]
    show some (double.nearest (s ^^ t) (m * n) ((i : Int) - 1074 + ((j : Int) - 1074))) = _
    congr 2
    omega
  · rw [P2_add]
    simp only [Nat.mul_assoc, Nat.mul_left_comm]

/-- What a product's word may be. -/
theorem mul_is {x y a b : Nat} {s t : Bool} (hx : Is x s a) (hy : Is y t b) (h : a * b < P2 3171) :
    ∃ w z, double.mul x y = some w ∧ Is w (s ^^ t) z ∧
      2 ^ 53 * (z * U) ≤ 2 ^ 53 * (a * b) + max (a * b) (2 ^ 52 * U) ∧ 2 ^ 53 * (a * b) ≤ 2 ^ 53 * (z * U) + max (a * b) (2 ^ 52 * U) ∧
      (∀ m0 e0, a * b = m0 * P2 e0 → m0 < 2 ^ 53 → 1074 ≤ e0 → z * U = a * b) := by
  obtain ⟨mag, p, hw, hab⟩ := mul_eq hx hy
  refine ⟨_, if mag = 0 then 0 else zv mag p 1074, hw, ?_⟩
  by_cases hm : mag = 0
  · subst hm
    rw [if_pos rfl]
    rw [Nat.zero_mul] at hab
    rw [← hab]
    refine ⟨near_zero _ _, by omega, by omega, ?_⟩
    intros
    exact Nat.zero_mul _
  · rw [if_neg hm]
    rw [← hab] at h ⊢
    exact ⟨near_fin2 _ mag p 1074 hm h, (zv_bd2 mag p 1074 hm).1, (zv_bd2 mag p 1074 hm).2, fun m0 e0 h1 h2 h3 => zv_exact2 mag p 1074 m0 e0 hm h1 h2 h3⟩

/-- A product from 2^1024 on is infinite. -/
theorem mul_big {x y a b : Nat} {s t : Bool} (hx : Is x s a) (hy : Is y t b) (h : P2 3172 ≤ a * b) :
    ∃ w, double.mul x y = some w ∧ double.read w = .infinity (s ^^ t) := by
  obtain ⟨mag, p, hw, hab⟩ := mul_eq hx hy
  have hm : mag ≠ 0 := by
    intro hm
    rw [hm, Nat.zero_mul] at hab
    have := P2_pos 3172
    omega
  exact ⟨_, hw, near_big2 _ mag p 1074 hm (by rw [hab]; exact h)⟩

/-- Times a power of two from one on: exact. -/
theorem mul_pow {x y a k : Nat} {s t : Bool} (hx : Is x s a) (hy : Is y t (P2 k * U)) (h : a * P2 k < P2 2097) :
    (∃ w, double.mul x y = some w ∧ Is w (s ^^ t) (a * P2 k)) ∧ (∃ w, double.mul y x = some w ∧ Is w (s ^^ t) (a * P2 k)) := by
  have e : a * (P2 k * U) = a * P2 k * U := by rw [Nat.mul_assoc]
  have hlt : a * (P2 k * U) < P2 3171 := by
    rw [e, show P2 3171 = P2 2097 * U from P2_add 2097 1074]
    exact Nat.mul_lt_mul_of_pos_right h U_pos
  have hex : ∃ m0 e0, a * (P2 k * U) = m0 * P2 e0 ∧ m0 < 2 ^ 53 ∧ 1074 ≤ e0 := by
    obtain ⟨m, i, -, rfl, hm, -⟩ := is_open hx
    refine ⟨m, i + (k + 1074), ?_, hm, by omega⟩
    rw [P2_add, P2_add, U_eq, Nat.mul_assoc]
  obtain ⟨m0, e0, h1, h2, h3⟩ := hex
  constructor
  · obtain ⟨w, z, hw, hz, -, -, hx'⟩ := mul_is hx hy hlt
    have := hx' m0 e0 h1 h2 h3
    rw [e] at this
    rw [Nat.eq_of_mul_eq_mul_right U_pos this] at hz
    exact ⟨w, hw, hz⟩
  · obtain ⟨w, z, hw, hz, -, -, hx'⟩ := mul_is hy hx (by rw [Nat.mul_comm]; exact hlt)
    have := hx' m0 e0 (by rw [Nat.mul_comm]; exact h1) h2 h3
    rw [Nat.mul_comm _ a, e] at this
    rw [Nat.eq_of_mul_eq_mul_right U_pos this, Bool.xor_comm] at hz
    exact ⟨w, hw, hz⟩

/-! ### The quotient -/
def moreQ (m n : Nat) : Nat := 54 + n.log2 - m.log2
def magQ (m n : Nat) : Nat := 2 * ((m <<< moreQ m n) / n) + ((m <<< moreQ m n) % n != 0).toNat

theorem div_eq {x y m i n j : Nat} {s t : Bool} (hx : double.read x = .number s m ((i : Int) - 1074)) (hy : double.read y = .number t n ((j : Int) - 1074)) (hn : n ≠ 0) :
    double.div x y = some (double.nearest (s ^^ t) (magQ m n) (((i + 1074 : Nat) : Int) - (1074 + (j + moreQ m n + 1) : Nat))) := by
  unfold Format.div
  rw [hx, hy]
  unfold Datum.quotient
  dsimp only
  rw [if_neg hn]
  have e : (i : Int) - 1074 - ((j : Int) - 1074) - (moreQ m n : Nat) - 1 = ((i + 1074 : Nat) : Int) - (1074 + (j + moreQ m n + 1) : Nat) := by omega
  rw [← e]
  rfl

theorem magQ_bd (m n : Nat) (hn : n ≠ 0) : n * magQ m n ≤ 2 * (m * P2 (moreQ m n)) + n ∧ 2 * (m * P2 (moreQ m n)) ≤ n * magQ m n + n := by
  unfold magQ
  rw [Nat.shiftLeft_eq, ← P2_def]
  generalize m * P2 (moreQ m n) = N
  have h1 := Nat.div_add_mod N n
  have h2 := Nat.mod_lt N (show n > 0 by omega)
  rw [Nat.mul_add, Nat.mul_left_comm]
  generalize N / n = q at *
  generalize N % n = r at *
  by_cases hr : r = 0
  · subst hr
    simp only [bne_self_eq_false, Bool.toNat_false]
    omega
  · rw [show (r != 0) = true by simpa using hr, Bool.toNat_true]
    omega

theorem magQ_ge (m n : Nat) (hm : m ≠ 0) (hn : n ≠ 0) : 2 ^ 54 ≤ magQ m n := by
  have h1 := Nat.log2_self_le hm
  have h2 : n < 2 ^ (n.log2 + 1) := Nat.lt_log2_self
  have hle : 2 ^ 53 ≤ (m <<< moreQ m n) / n := by
    rw [Nat.le_div_iff_mul_le (by omega), Nat.shiftLeft_eq]
    have h3 : 2 ^ (54 + n.log2) ≤ m * 2 ^ moreQ m n := by
      by_cases hc : m.log2 ≤ 54 + n.log2
      · have : 54 + n.log2 = m.log2 + moreQ m n := by unfold moreQ; omega
        rw [this, Nat.pow_add]
        exact Nat.mul_le_mul_right _ h1
      · have h0 : moreQ m n = 0 := by unfold moreQ; omega
        rw [h0, Nat.pow_zero, Nat.mul_one]
        exact Nat.le_trans (two_pow_le_of_le (by omega)) h1
    have h4 : 2 ^ (54 + n.log2) = 2 ^ 53 * 2 ^ (n.log2 + 1) := by rw [← Nat.pow_add]; congr 1; omega
    rw [h4] at h3
    exact Nat.le_trans (Nat.mul_le_mul_left _ (by omega)) h3
  unfold magQ
  omega

/-- The quotient of two finite numbers, the second not zero: below 2^1023. -/
theorem div_is {x y a b : Nat} {s t : Bool} (hx : Is x s a) (hy : Is y t b) (hb : b ≠ 0) (h : 2 * (a * U) < P2 2097 * b) :
    ∃ w z, double.div x y = some w ∧ Is w (s ^^ t) z ∧
      2 ^ 52 * (z * b) ≤ 2 ^ 52 * (a * U) + max (a * U) (2 ^ 52 * b) ∧ 2 ^ 52 * (a * U) ≤ 2 ^ 52 * (z * b) + max (a * U) (2 ^ 52 * b) ∧ (a = 0 → z = 0) := by
  obtain ⟨m, i, rx, ea, -, -⟩ := is_open hx
  obtain ⟨n, j, ry, eb, -, -⟩ := is_open hy
  have hn : n ≠ 0 := by
    intro hn
    rw [hn, Nat.zero_mul] at eb
    exact hb eb
  have hw := div_eq rx ry hn
  by_cases hm : m = 0
  · have h0 : magQ m n = 0 := by
      have := (magQ_bd m n hn)
      unfold magQ
      rw [hm]
      simp
    rw [hm, Nat.zero_mul] at ea
    rw [h0] at hw
    refine ⟨_, 0, hw, near_zero _ _, ?_, ?_, fun _ => rfl⟩
    · omega
    · rw [ea]; omega
  · have hmag := magQ_ge m n hm hn
    have hmb := magQ_bd m n hn
    have hz := zv_bd2 (magQ m n) (i + 1074) (j + moreQ m n + 1) (by omega)
    -- the four products
    have eX : 2 * (m * P2 (moreQ m n)) * P2 (i + 1074) = (a * U) * P2 (moreQ m n + 1) := by
      rw [ea, P2_add i, P2_add (moreQ m n) 1, U_eq]
      rw [show P2 1 = 2 from by rw [P2_def]]
      ac_rfl
    have eD : n * P2 (j + moreQ m n + 1) = b * P2 (moreQ m n + 1) := by
      rw [eb, Nat.add_assoc, P2_add j, Nat.mul_assoc]
    have hE := P2_pos (moreQ m n + 1)
    have hPi := P2_pos (i + 1074)
    -- Y = n * mag * P, N = n * P
    have y1 := Nat.mul_le_mul_right (P2 (i + 1074)) hmb.1
    have y2 := Nat.mul_le_mul_right (P2 (i + 1074)) hmb.2
    rw [Nat.add_mul, eX] at y1 y2
    have y3 := Nat.mul_le_mul_right (n * P2 (i + 1074)) hmag
    have eY : magQ m n * (n * P2 (i + 1074)) = n * magQ m n * P2 (i + 1074) := by ac_rfl
    rw [eY] at y3
    have hfin : magQ m n * P2 (i + 1074) < P2 (j + moreQ m n + 1 + 2097) := by
      have k1 : n * magQ m n * P2 (i + 1074) < P2 2097 * b * P2 (moreQ m n + 1) := by
        have := Nat.mul_lt_mul_of_pos_right h hE
        rw [Nat.mul_assoc 2] at this
        generalize a * U * P2 (moreQ m n + 1) = X at *
        generalize n * magQ m n * P2 (i + 1074) = Y at *
        generalize n * P2 (i + 1074) = N at *
        omega
      rw [P2_add _ 2097]
      have k2 : n * (magQ m n * P2 (i + 1074)) < n * (P2 (j + moreQ m n + 1) * P2 2097) := by
        rw [← Nat.mul_assoc, ← Nat.mul_assoc, eD]
        have e : b * P2 (moreQ m n + 1) * P2 2097 = P2 2097 * b * P2 (moreQ m n + 1) := by ac_rfl
        rw [e]
        exact k1
      exact Nat.lt_of_mul_lt_mul_left k2
    refine ⟨_, _, hw, near_fin2 _ _ _ _ (by omega) hfin, ?_, ?_, ?_⟩
    case refine_3 =>
      intro ha
      rw [ha] at ea
      have := Nat.mul_pos (show 0 < m by omega) (P2_pos i)
      omega
    all_goals
     generalize zv (magQ m n) (i + 1074) (j + moreQ m n + 1) = z at *
     have z1 := Nat.mul_le_mul_left n hz.1
     have z2 := Nat.mul_le_mul_left n hz.2
     have eZ : n * (2 ^ 53 * (z * P2 (j + moreQ m n + 1))) = 2 ^ 53 * (z * b * P2 (moreQ m n + 1)) := by
       rw [Nat.mul_left_comm n, Nat.mul_left_comm n, eD, Nat.mul_assoc]
     have eM : n * max (magQ m n * P2 (i + 1074)) (2 ^ 52 * P2 (j + moreQ m n + 1)) = max (n * magQ m n * P2 (i + 1074)) (2 ^ 52 * (b * P2 (moreQ m n + 1))) := by
       rw [← Nat.mul_max_mul_left, Nat.mul_left_comm n (2 ^ 52), eD, ← Nat.mul_assoc n]
     have eA : n * (2 ^ 53 * (magQ m n * P2 (i + 1074))) = 2 ^ 53 * (n * magQ m n * P2 (i + 1074)) := by
       rw [Nat.mul_left_comm n, Nat.mul_assoc n]
     rw [Nat.mul_add, eZ, eM, eA] at z1 z2
     have fin : ∀ p q r : Nat, p * P2 (moreQ m n + 1) ≤ q * P2 (moreQ m n + 1) + r * P2 (moreQ m n + 1) → p ≤ q + r := by
       intro p q r hp
       rw [← Nat.add_mul] at hp
       exact Nat.le_of_mul_le_mul_right hp hE
     have eMx : max (a * U) (2 ^ 52 * b) * P2 (moreQ m n + 1) = max (a * U * P2 (moreQ m n + 1)) (2 ^ 52 * (b * P2 (moreQ m n + 1))) := by
       rw [← Nat.mul_max_mul_right, Nat.mul_assoc (2 ^ 52)]
     apply fin
     rw [eMx, Nat.mul_assoc (2 ^ 52), Nat.mul_assoc (2 ^ 52)]
     generalize a * U * P2 (moreQ m n + 1) = X at *
     generalize n * magQ m n * P2 (i + 1074) = Y at *
     generalize n * P2 (i + 1074) = N at *
     generalize z * b * P2 (moreQ m n + 1) = Z at *
     generalize b * P2 (moreQ m n + 1) = B at *
     omega

/-! ### The difference -/
theorem sg_not (t : Bool) (b : Nat) : sg (!t) b = - sg t b := by
  cases t
  · rfl
  · show (b : Int) = - -(b : Int)
    omega

theorem sub_is {x y a b : Nat} {s t : Bool} (hx : Is x s a) (hy : Is y t b) (h : (sg s a - sg t b).natAbs < P2 2097) :
    ∃ w z r, double.sub x y = some w ∧ Is w r z ∧
      2 ^ 53 * z ≤ 2 ^ 53 * (sg s a - sg t b).natAbs + max (sg s a - sg t b).natAbs (2 ^ 52) ∧
      2 ^ 53 * (sg s a - sg t b).natAbs ≤ 2 ^ 53 * z + max (sg s a - sg t b).natAbs (2 ^ 52) ∧
      ((sg s a - sg t b).natAbs = 0 → z = 0) := by
  obtain ⟨m, i, rx, rfl, -, -⟩ := is_open hx
  obtain ⟨n, j, ry, rfl, -, -⟩ := is_open hy
  have e1 : ((i : Int) - 1074 - min ((i : Int) - 1074) ((j : Int) - 1074)).toNat = i - min i j := by omega
  have e2 : ((j : Int) - 1074 - min ((i : Int) - 1074) ((j : Int) - 1074)).toNat = j - min i j := by omega
  have e3 : min ((i : Int) - 1074) ((j : Int) - 1074) = ((min i j : Nat) : Int) - (1074 + 0 : Nat) := by omega
  have f1 : m * P2 i = m * P2 (i - min i j) * P2 (min i j) := by rw [Nat.mul_assoc, ← P2_add, Nat.sub_add_cancel (Nat.min_le_left _ _)]
  have f2 : n * P2 j = n * P2 (j - min i j) * P2 (min i j) := by rw [Nat.mul_assoc, ← P2_add, Nat.sub_add_cancel (Nat.min_le_right _ _)]
  have hT : (sg s (m * P2 i) - sg t (n * P2 j)).natAbs = (sg s (m * P2 (i - min i j)) + sg (!t) (n * P2 (j - min i j))).natAbs * P2 (min i j) := by
    rw [f1, f2, sg_scale s, sg_scale t, sg_not, ← Int.sub_mul, Int.natAbs_mul, Int.natAbs_natCast, Int.sub_eq_add_neg]
  have hs : ∃ r, double.sub x y = some (double.nearest r (sg s (m * P2 (i - min i j)) + sg (!t) (n * P2 (j - min i j))).natAbs (((min i j : Nat) : Int) - (1074 + 0 : Nat))) := by
    unfold Format.sub
    rw [rx, ry]
    unfold Datum.opposite Datum.sum
    dsimp only
    rw [e1, e2, signed_eq, signed_eq, ← P2_def, ← P2_def, e3]
    exact ⟨_, rfl⟩
  rw [hT] at h ⊢
  generalize (sg s (m * P2 (i - min i j)) + sg (!t) (n * P2 (j - min i j))).natAbs = T at *
  obtain ⟨r, hs⟩ := hs
  by_cases h0 : T = 0
  · rw [h0] at hs ⊢
    refine ⟨_, 0, r, hs, near_zero _ _, by omega, by omega, fun _ => rfl⟩
  · have hz := zv_bd2 T (min i j) 0 h0
    rw [show P2 0 = 1 from by rw [P2_def]] at hz
    refine ⟨_, _, r, hs, near_fin2 r T (min i j) 0 h0 (by simpa using h), by simpa using hz.1, by simpa using hz.2, ?_⟩
    intro h1
    have := Nat.mul_pos (show 0 < T by omega) (P2_pos (min i j))
    omega

/-! ### The canonical significand -/
theorem canon_unique {m t m' t' : Nat} (h : m * P2 t = m' * P2 t') (h1 : m < 2 ^ 53) (h2 : m' < 2 ^ 53) (c1 : t = 0 ∨ 2 ^ 52 ≤ m) (c2 : t' = 0 ∨ 2 ^ 52 ≤ m') : m = m' ∧ t = t' := by
  have key : ∀ {m t m' t' : Nat}, m * P2 t = m' * P2 t' → m < 2 ^ 53 → (t' = 0 ∨ 2 ^ 52 ≤ m') → ¬ t < t' := by
    intro m t m' t' h h1 c2 hlt
    have e : P2 t' = P2 (t' - t) * P2 t := by rw [← P2_add, Nat.sub_add_cancel (by omega)]
    rw [e, ← Nat.mul_assoc] at h
    have hm := Nat.eq_of_mul_eq_mul_right (P2_pos t) h
    have h2 : P2 1 ≤ P2 (t' - t) := P2_le (by omega)
    rw [show P2 1 = 2 from by rw [P2_def]] at h2
    have h3 : 2 ^ 52 * 2 ≤ m' * P2 (t' - t) := Nat.mul_le_mul (by omega) h2
    omega
  have ht : t = t' := by
    have a := key h h1 c2
    have b := key h.symm h2 c1
    omega
  subst ht
  exact ⟨Nat.eq_of_mul_eq_mul_right (P2_pos t) h, rfl⟩

/-- Twice a number that is not subnormal: the same significand, one place up. -/
theorem is_twice {x y a : Nat} {s r : Bool} (hx : Is x s a) (hy : Is y r (2 * a)) (h : 2 ^ 52 ≤ a) :
    ∃ m t : Nat, double.read x = .number s m ((t : Int) - 1074) ∧ double.read y = .number r m (((t + 1 : Nat) : Int) - 1074) ∧ a = m * P2 t ∧ 2 ^ 52 ≤ m ∧ m < 2 ^ 53 := by
  obtain ⟨m, i, rx, ea, hm, cm⟩ := is_open hx
  obtain ⟨n, j, ry, eb, hn, cn⟩ := is_open hy
  have h52 : 2 ^ 52 ≤ m := by
    rcases cm with rfl | h
    · rw [show P2 0 = 1 from by rw [P2_def]] at ea
      omega
    · exact h
  have e : m * P2 (i + 1) = n * P2 j := by
    rw [← eb, ea, P2_add, show P2 1 = 2 from by rw [P2_def]]
    ac_rfl
  obtain ⟨e1, e2⟩ := canon_unique e hm hn (Or.inr h52) cn
  subst e1 e2
  exact ⟨m, i, rx, ry, ea, h52, hm⟩

theorem place_ge {m t k a : Nat} (ea : a = m * P2 t) (hm : m < 2 ^ 53) (h : 2 ^ 52 * P2 k ≤ a) : k ≤ t := by
  by_cases hk : k ≤ t
  · exact hk
  · have h1 : m * P2 t < 2 ^ 53 * P2 t := Nat.mul_lt_mul_of_pos_right hm (P2_pos t)
    have h2 : P2 (t + 1) ≤ P2 k := P2_le (by omega)
    rw [P2_add, show P2 1 = 2 from by rw [P2_def]] at h2
    omega

theorem zv_half (mag p d : Nat) (h : d + 1 ≤ p + mag.log2 - 52) : zv mag p d = 2 * zv mag p (d + 1) := by
  have hq : qv mag p d = p + mag.log2 - 52 := by unfold qv; omega
  have hq2 : qv mag p (d + 1) = qv mag p d := by unfold qv; omega
  unfold zv cv
  rw [hq2, show qv mag p d - d = (qv mag p d - (d + 1)) + 1 by omega, Nat.pow_succ]
  generalize Toward.even.cut false _ _ = c
  rw [← Nat.mul_assoc, Nat.mul_comm]

/-- Divided by a power of two, the answer not subnormal: exact. -/
theorem div_pow {x y a k : Nat} {s : Bool} (hx : Is x s a) (hy : Is y false (P2 k * U)) (h : 2 ^ 52 * P2 k ≤ a) (hfin : a < P2 2096) :
    ∃ w c, double.div x y = some w ∧ Is w s c ∧ c * P2 k = a := by
  obtain ⟨m, i, rx, ea, hm, -⟩ := is_open hx
  obtain ⟨n, j, ry, eb, hn, cn⟩ := is_open hy
  have e : 2 ^ 52 * P2 (k + 1022) = n * P2 j := by
    rw [← eb, U_eq, ← P2_add, show k + 1074 = 52 + (k + 1022) by omega, P2_add 52, P2_def 52]
  obtain ⟨e1, e2⟩ := canon_unique e (by omega) hn (Or.inr (by omega)) cn
  subst e1 e2
  have hk := place_ge ea hm h
  have hm0 : m ≠ 0 := by
    intro h0
    rw [h0, Nat.zero_mul] at ea
    have := Nat.mul_pos (show 0 < 2 ^ 52 by omega) (P2_pos k)
    omega
  have hlog : m.log2 < 53 := (Nat.log2_lt hm0).2 hm
  have h52 : (2 ^ 52).log2 = 52 := Nat.log2_two_pow
  have hmore : 52 ≤ moreQ m (2 ^ 52) := by unfold moreQ; omega
  have hmag : magQ m (2 ^ 52) = 2 * (m * P2 (moreQ m (2 ^ 52) - 52)) := by
    unfold magQ
    have e : m <<< moreQ m (2 ^ 52) = m * P2 (moreQ m (2 ^ 52) - 52) * 2 ^ 52 := by
      rw [Nat.shiftLeft_eq]
      generalize moreQ m (2 ^ 52) = q at hmore ⊢
      rw [← P2_def q, ← P2_def 52, Nat.mul_assoc, ← P2_add, Nat.sub_add_cancel hmore]
    rw [e, Nat.mul_div_cancel _ (by omega), Nat.mul_mod_left]
    simp
  have hw := div_eq rx ry (by omega)
  have hne : magQ m (2 ^ 52) ≠ 0 := by
    have := magQ_ge m (2 ^ 52) hm0 (by omega)
    omega
  have hA : magQ m (2 ^ 52) * P2 (i + 1074) = m * P2 (moreQ m (2 ^ 52) + i + 1023) := by
    rw [hmag, show moreQ m (2 ^ 52) + i + 1023 = 1 + ((moreQ m (2 ^ 52) - 52) + (i + 1074)) by omega, P2_add 1, P2_add (_ - 52), show P2 1 = 2 from by rw [P2_def]]
    ac_rfl
  have hx2 := zv_exact2 (magQ m (2 ^ 52)) (i + 1074) (k + 1022 + moreQ m (2 ^ 52) + 1) m (moreQ m (2 ^ 52) + i + 1023) hne hA hm (by omega)
  have eA : m * P2 (moreQ m (2 ^ 52) + i + 1023) = m * P2 (i - k) * P2 (k + 1022 + moreQ m (2 ^ 52) + 1) := by
    rw [Nat.mul_assoc, ← P2_add]
    congr 2
    omega
  have hfin2 : magQ m (2 ^ 52) * P2 (i + 1074) < P2 (k + 1022 + moreQ m (2 ^ 52) + 1 + 2097) := by
    rw [hA, eA, P2_add _ 2097, Nat.mul_comm]
    apply Nat.mul_lt_mul_of_pos_left _ (P2_pos _)
    have h1 : m * P2 (i - k) ≤ m * P2 i := Nat.mul_le_mul_left _ (P2_le (by omega))
    have h2 : P2 2096 < P2 2097 := P2_lt (by omega)
    omega
  rw [hA, eA] at hx2
  have hz := Nat.eq_of_mul_eq_mul_right (P2_pos _) hx2
  have hI := near_fin2 (s ^^ false) _ _ _ hne hfin2
  rw [hz, Bool.xor_false] at hI
  rw [Bool.xor_false] at hw
  refine ⟨_, _, hw, hI, ?_⟩
  rw [ea, Nat.mul_assoc, ← P2_add, Nat.sub_add_cancel hk]

/-! ### Words -/
theorem is_fun {x v v' : Nat} {s s' : Bool} (h : Is x s v) (h' : Is x s' v') : s = s' ∧ v = v' := by
  obtain ⟨m, t, r, rfl, -, -⟩ := h
  obtain ⟨m', t', r', rfl, -, -⟩ := h'
  rw [r] at r'
  injection r' with e1 e2 e3
  have : t = t' := by omega
  subst e1 e2 this
  exact ⟨rfl, rfl⟩

theorem not_inf {x v : Nat} {s r : Bool} (h : Is x s v) (h' : double.read x = .infinity r) : False := by
  obtain ⟨m, t, e, -⟩ := h
  rw [e] at h'
  cases h'

/-- Whatever word: a finite number, an infinity, or a NaN. -/
theorem word_cases (x : Nat) : (∃ s v, Is x s v) ∨ (∃ s, double.read x = .infinity s) ∨ (∃ s t, double.read x = .nan s t) := by
  have hr : double.read x = if x % 2 ^ 63 < 2 ^ 52 then .number (x / 2 ^ 63 % 2 == 1) (x % 2 ^ 63) (-1074)
      else if x % 2 ^ 63 < 2047 * 2 ^ 52 then .number (x / 2 ^ 63 % 2 == 1) (2 ^ 52 + x % 2 ^ 63 % 2 ^ 52) (-1074 + (x % 2 ^ 63 / 2 ^ 52 - 1 : Nat))
      else if x % 2 ^ 63 = 2047 * 2 ^ 52 then .infinity (x / 2 ^ 63 % 2 == 1)
      else .nan (x / 2 ^ 63 % 2 == 1) (x % 2 ^ 63 - 2047 * 2 ^ 52) := by
    unfold Format.read
    rw [weight_eq, binade_eq, inf_eq, least_eq]
  by_cases h1 : x % 2 ^ 63 < 2 ^ 52
  · rw [if_pos h1] at hr
    refine Or.inl ⟨(x / 2 ^ 63 % 2 == 1), _, x % 2 ^ 63, 0, ?_, rfl, by omega, Or.inl rfl⟩
    rw [hr]
    rfl
  · rw [if_neg h1] at hr
    by_cases h2 : x % 2 ^ 63 < 2047 * 2 ^ 52
    · rw [if_pos h2] at hr
      refine Or.inl ⟨(x / 2 ^ 63 % 2 == 1), _, 2 ^ 52 + x % 2 ^ 63 % 2 ^ 52, x % 2 ^ 63 / 2 ^ 52 - 1, ?_, rfl, by omega, Or.inr (by omega)⟩
      rw [hr]
      congr 1
    · rw [if_neg h2] at hr
      by_cases h3 : x % 2 ^ 63 = 2047 * 2 ^ 52
      · rw [if_pos h3] at hr
        exact Or.inr (Or.inl ⟨_, hr⟩)
      · rw [if_neg h3] at hr
        exact Or.inr (Or.inr ⟨_, _, hr⟩)

/-- A word written out: 't' the place, 'kept' the significand. -/
theorem is_const (c t kept : Nat) (hc : c = t * 2 ^ 52 + kept) (hk : kept ≤ 2 ^ 53) (h : t = 0 ∨ 2 ^ 52 ≤ kept) (hinf : t * 2 ^ 52 + kept < 2047 * 2 ^ 52) : Is c false (kept * P2 t) := by
  rw [P2_def, hc]
  exact is_rung false t kept hk h hinf

theorem is_pow (c k : Nat) (hc : c = (1023 + k) * 2 ^ 52) (hk : k < 1000) : Is c false (P2 k * U) := by
  have h1 : c = (1022 + k) * 2 ^ 52 + 2 ^ 52 := by rw [hc, show 1023 + k = (1022 + k) + 1 by omega, Nat.add_mul, Nat.one_mul]
  have h2 : (1022 + k) * 2 ^ 52 + 2 ^ 52 < 2047 * 2 ^ 52 := by omega
  have := is_const c (1022 + k) (2 ^ 52) h1 (by omega) (Or.inr (Nat.le_refl _)) h2
  have e : 2 ^ 52 * P2 (1022 + k) = P2 k * U := by
    rw [← P2_def, U_eq, ← P2_add, ← P2_add]
    congr 1
    omega
  rwa [e] at this

/-- 'lo <= x && x <= hi' says that x is finite and lies there. -/
theorem between {x lo hi a b : Nat} {s t : Bool} (hlo : Is lo s a) (hhi : Is hi t b)
    (h1 : (double.order x lo == some .gt || double.order x lo == some .eq) = true) (h2 : (double.order x hi == some .lt || double.order x hi == some .eq) = true) :
    ∃ r v, Is x r v ∧ sg s a ≤ sg r v ∧ sg r v ≤ sg t b := by
  rcases word_cases x with ⟨r, v, hx⟩ | ⟨r, hx⟩ | ⟨r, u, hx⟩
  · refine ⟨r, v, hx, ?_, ?_⟩
    · rw [order_is hx hlo] at h1
      by_cases hc : sg s a ≤ sg r v
      · exact hc
      · rw [if_pos (by omega)] at h1
        cases h1
    · rw [order_is hx hhi] at h2
      by_cases hc : sg r v ≤ sg t b
      · exact hc
      · rw [if_neg (by omega), if_neg (by omega)] at h2
        cases h2
  · exfalso
    obtain ⟨m, i, e1, -⟩ := hlo
    obtain ⟨m', i', e2, -⟩ := hhi
    unfold Format.order at h1 h2
    rw [hx, e1] at h1
    rw [hx, e2] at h2
    unfold Datum.order at h1 h2
    cases r
    · cases h2
    · cases h1
  · exfalso
    unfold Format.order at h1
    rw [hx] at h1
    unfold Datum.order at h1
    cases h1

/-- The other way round: what the test says of a finite number. -/
theorem leq_is {x y a b : Nat} {s t : Bool} (hx : Is x s a) (hy : Is y t b) : (double.order x y == some .lt || double.order x y == some .eq) = decide (sg s a ≤ sg t b) := by
  rw [order_is hx hy]
  by_cases h1 : sg s a < sg t b
  · rw [if_pos h1, decide_eq_true (by omega)]; rfl
  · rw [if_neg h1]
    by_cases h2 : sg s a = sg t b
    · rw [if_pos h2, decide_eq_true (by omega)]; rfl
    · rw [if_neg h2, decide_eq_false (by omega)]; rfl
theorem geq_is {x y a b : Nat} {s t : Bool} (hx : Is x s a) (hy : Is y t b) : (double.order x y == some .gt || double.order x y == some .eq) = decide (sg t b ≤ sg s a) := by
  rw [order_is hx hy]
  by_cases h1 : sg s a < sg t b
  · rw [if_pos h1, decide_eq_false (by omega)]; rfl
  · rw [if_neg h1]
    by_cases h2 : sg s a = sg t b
    · rw [if_pos h2, decide_eq_true (by omega)]; rfl
    · rw [if_neg h2, decide_eq_true (by omega)]; rfl
theorem lss_is {x y a b : Nat} {s t : Bool} (hx : Is x s a) (hy : Is y t b) : (double.order x y == some .lt) = decide (sg s a < sg t b) := by
  rw [order_is hx hy]
  by_cases h1 : sg s a < sg t b
  · rw [if_pos h1, decide_eq_true h1]; rfl
  · rw [if_neg h1, decide_eq_false h1]
    by_cases h2 : sg s a = sg t b
    · rw [if_pos h2]; rfl
    · rw [if_neg h2]; rfl
theorem gtr_is {x y a b : Nat} {s t : Bool} (hx : Is x s a) (hy : Is y t b) : (double.order x y == some .gt) = decide (sg t b < sg s a) := by
  rw [order_is hx hy]
  by_cases h1 : sg s a < sg t b
  · rw [if_pos h1, decide_eq_false (by omega)]; rfl
  · rw [if_neg h1]
    by_cases h2 : sg s a = sg t b
    · rw [if_pos h2, decide_eq_false (by omega)]; rfl
    · rw [if_neg h2, decide_eq_true (by omega)]; rfl
theorem eql_is {x y a b : Nat} {s t : Bool} (hx : Is x s a) (hy : Is y t b) : (double.order x y == some .eq) = decide (sg s a = sg t b) := by
  rw [order_is hx hy]
  by_cases h1 : sg s a < sg t b
  · rw [if_pos h1, decide_eq_false (by omega)]; rfl
  · rw [if_neg h1]
    by_cases h2 : sg s a = sg t b
    · rw [if_pos h2, decide_eq_true h2]; rfl
    · rw [if_neg h2, decide_eq_false h2]; rfl

/-! ### The sign turned -/
theorem xor_top (r : Nat) (h : r < 2 ^ 63) : (2 ^ 63 + r) ^^^ 2 ^ 63 = r := by
  apply Nat.eq_of_testBit_eq
  intro i
  rw [Nat.testBit_xor, Nat.testBit_two_pow]
  by_cases hi : 63 = i
  · subst hi
    rw [Nat.testBit_two_pow_add_eq, Nat.testBit_lt_two_pow h]
    simp
  · rw [decide_eq_false hi, Bool.xor_false]
    by_cases hlt : i < 63
    · rw [Nat.testBit_two_pow_add_gt hlt]
    · have h64 : r < 2 ^ i := Nat.lt_of_lt_of_le h (two_pow_le_of_le (by omega))
      have h65 : 2 ^ 63 + r < 2 ^ i := Nat.lt_of_lt_of_le (show 2 ^ 63 + r < 2 ^ 64 by omega) (two_pow_le_of_le (by omega))
      rw [Nat.testBit_lt_two_pow h64, Nat.testBit_lt_two_pow h65]

theorem is_neg {x v : Nat} (h : Is x true v) (hx : x < 2 ^ 64) : Is (x ^^^ 2 ^ 63) false v := by
  obtain ⟨m, t, e, h2, h3, h4⟩ := h
  have hs : x / 2 ^ 63 % 2 = 1 := by
    have : (double.read x).neg = true := by rw [e]; rfl
    have hn : (double.read x).neg = (x / 2 ^ 63 % 2 == 1) := by
      unfold Format.read
      rw [weight_eq]
      dsimp only
      split
      · rfl
      · split
        · rfl
        · split <;> rfl
    rw [hn] at this
    exact eq_of_beq this
  have ex : x = double.word true (x % 2 ^ 63) := by
    show x = 2 ^ 63 + x % 2 ^ 63
    omega
  have ey : x ^^^ 2 ^ 63 = double.word false (x % 2 ^ 63) := by
    show x ^^^ 2 ^ 63 = x % 2 ^ 63
    have := xor_top (x % 2 ^ 63) (by omega)
    rwa [show 2 ^ 63 + x % 2 ^ 63 = x by omega] at this
  refine ⟨m, t, ?_, h2, h3, h4⟩
  have r1 := read_word true (x % 2 ^ 63) (by omega)
  have r2 := read_word false (x % 2 ^ 63) (by omega)
  rw [← ex, e] at r1
  rw [ey, r2]
  by_cases c1 : x % 2 ^ 63 < 2 ^ 52
  · rw [if_pos c1] at r1 ⊢
    injection r1 with a b c
    rw [b, c]
  · rw [if_neg c1] at r1 ⊢
    by_cases c2 : x % 2 ^ 63 < 2047 * 2 ^ 52
    · rw [if_pos c2] at r1 ⊢
      injection r1 with a b c
      rw [b, c]
    · rw [if_neg c2] at r1
      split at r1 <;> cases r1

/-! ### Normal answers -/
theorem zv_norm (mag p d : Nat) (hm : mag ≠ 0) (h : P2 55 ≤ zv mag p d) : d + 1 ≤ p + mag.log2 - 52 := by
  by_cases hc : d + 1 ≤ p + mag.log2 - 52
  · exact hc
  · have h1 := mag_hi mag p
    rw [← P2_def, ← P2_def] at h1
    have h2 : P2 (p + mag.log2 + 1) ≤ P2 (53 + d) := P2_le (by omega)
    have h3 := (zv_bd2 mag p d hm).1
    have h4 := Nat.mul_le_mul_right (P2 d) h
    rw [P2_add 53] at h2
    rw [P2_def 53] at h2
    rw [P2_def 55] at h4
    have h5 := P2_pos d
    generalize zv mag p d * P2 d = Z at *
    generalize mag * P2 p = A at *
    generalize P2 d = D at *
    omega

/-- Half the quotient at twice the divisor, exactly. -/
theorem div_twice {x y y' w w' a b z z' : Nat} {s t r r' : Bool} (hx : Is x s a) (hy : Is y t b) (hy' : Is y' t (2 * b)) (hb : 2 ^ 52 ≤ b)
    (hw : double.div x y = some w) (hw' : double.div x y' = some w') (hz : Is w r z) (hz' : Is w' r' z') (hn : P2 55 ≤ z) : z = 2 * z' := by
  obtain ⟨m, i, rx, ea, -, -⟩ := is_open hx
  obtain ⟨n, j, ry, ry', eb, h52, -⟩ := is_twice hy hy' hb
  have e1 := div_eq rx ry (by omega)
  have e2 := div_eq rx ry' (by omega)
  rw [hw] at e1
  rw [hw'] at e2
  injection e1 with e1
  injection e2 with e2
  by_cases hm : magQ m n = 0
  · rw [hm] at e1
    have := near_zero (s ^^ t) (((i + 1074 : Nat) : Int) - (1074 + (j + moreQ m n + 1) : Nat))
    rw [← e1] at this
    have := (is_fun hz this).2
    rw [P2_def 55] at hn
    omega
  · have o1 := near_or (s ^^ t) (magQ m n) (i + 1074) (j + moreQ m n + 1) hm
    rw [← e1] at o1
    have o2 := near_or (s ^^ t) (magQ m n) (i + 1074) (j + 1 + moreQ m n + 1) hm
    rw [← e2] at o2
    have z1 : z = zv (magQ m n) (i + 1074) (j + moreQ m n + 1) := by
      rcases o1 with o | o
      · exact (is_fun hz o).2
      · exact (not_inf hz o).elim
    have z2 : z' = zv (magQ m n) (i + 1074) (j + 1 + moreQ m n + 1) := by
      rcases o2 with o | o
      · exact (is_fun hz' o).2
      · exact (not_inf hz' o).elim
    rw [z1] at hn ⊢
    rw [z2, show j + 1 + moreQ m n + 1 = (j + moreQ m n + 1) + 1 by omega]
    exact zv_half _ _ _ (zv_norm _ _ _ hm hn)

end Go.Proofs.Qxb6618749a.Fl
