/-
  THE WALKS of math.Round, math.Sqrt and PatternCoefficient.
-/
import Derived.Test.Qxb6618749aRows
import Derived.Test.Qxb6618749aCoef
import Derived.WalkKit
import Derived.ProofKit
import Derived.OpenShut
import Derived.WalkSpells
import Derived.WalkLawsBesides
import Derived.Laws.FloatArith
import Derived.Laws.BitsAllLaws
namespace Go.Proofs.Qxb6618749a
open Go.RowKit
open Go.Proofs.Qxb6618749a.Fl

theorem ret_float {a b : Nat} (h : a = b) : Ending.returned (.float .f64 a) = .returned (.float .f64 b) := by rw [h]
theorem ret_int {k : IntKind} {a b : Int} (h : a = b) : Ending.returned (.int k a) = .returned (.int k b) := by rw [h]

theorem call11 (x : Nat) (w : World) : (callFunc 11 #[.float .f64 x]).run Try.prog w = .ok (.value (.int .u64 x)) w := by
  rw [run_callFunc_extern (e := Extern.MathFloatBits.float64bits) Try.func11 (by kernel_rfl) (by kernel_rfl) (by kernel_rfl) (by kernel_rfl)]
  rfl
theorem call12 (n : Int) (w : World) : (callFunc 12 #[.int .u64 n]).run Try.prog w = .ok (.value (.float .f64 n.toNat)) w := by
  rw [run_callFunc_extern (e := Extern.MathFloatBits.float64frombits) Try.func12 (by kernel_rfl) (by kernel_rfl) (by kernel_rfl) (by kernel_rfl)]
  rfl
theorem call13 (x r : Nat) (h : Ieee.double.sqrt x = some r) (w : World) : (callFunc 13 #[.float .f64 x]).run Try.prog w = .ok (.value (.float .f64 r)) w := by
  rw [run_callFunc_extern (e := Extern.MathSqrt.sqrt) Try.func13 (by kernel_rfl) (by kernel_rfl) (by kernel_rfl) (by kernel_rfl)]
  have : Extern.MathSqrt.sqrt #[.float .f64 x] = (match Ieee.double.sqrt x with
    | some r => pure (.float .f64 r)
    | none => do pure (.float .f64 (← choose (.nanBits .f64 x x)))) := rfl
  rw [this, h]
  rfl

/-! ### math.Round -/
theorem expo (x : Nat) (hx : x < 2 ^ 64) : bits .and .u64 ((x : Int) / 4503599627370496) 2047 = ((x / 2 ^ 52 % 2048 : Nat) : Int) := by
  have e : (x : Int) / 4503599627370496 = ((x / 2 ^ 52 : Nat) : Int) := by omega
  rw [e, show (2047 : Int) = ((2047 : Nat) : Int) from rfl, u64_and_nat _ _ (by omega) (by omega), nat_mask11]

theorem sign_bit (x : Nat) (hx : x < 2 ^ 64) : bits .and .u64 (x : Int) 9223372036854775808 = ((x / 2 ^ 63 * 2 ^ 63 : Nat) : Int) := by
  rw [show (9223372036854775808 : Int) = ((2 ^ 63 : Nat) : Int) from rfl, u64_and_nat _ _ (by omega) (by omega), nat_bit 63]
  congr 2
  omega

set_option maxRecDepth 100000 in
set_option maxHeartbeats 400000 in
theorem round_a (x e : Nat) (w : World) (h2 : e < 1022) (he : bits .and .u64 ((x : Int) / 4503599627370496) 2047 = (e : Int)) :
    Calls Try.prog 9 #[.float .f64 x] w fun e w' => e = .returned (.float .f64 (bits .and .u64 (x : Int) 9223372036854775808).toNat) ∧ w' = w := by
  have q1 := call11
  have q2 := call12
  go_enter Try.func9, Try.ntmps9
  go_wp2
  go_ret
  exact ⟨rfl, rfl⟩

set_option maxRecDepth 100000 in
set_option maxHeartbeats 400000 in
theorem round_b (x : Nat) (w : World) (he : bits .and .u64 ((x : Int) / 4503599627370496) 2047 = 1022) :
    Calls Try.prog 9 #[.float .f64 x] w fun e w' => e = .returned (.float .f64 (bits .or .u64 (bits .and .u64 (x : Int) 9223372036854775808) 4607182418800017408).toNat) ∧ w' = w := by
  have q1 := call11
  have q2 := call12
  go_enter Try.func9, Try.ntmps9
  go_wp2
  go_ret
  exact ⟨rfl, rfl⟩

set_option maxRecDepth 100000 in
set_option maxHeartbeats 400000 in
theorem round_c (x e : Nat) (w : World) (h1 : 1023 ≤ e) (h2 : e < 1075) (he : bits .and .u64 ((x : Int) / 4503599627370496) 2047 = (e : Int)) :
    Calls Try.prog 9 #[.float .f64 x] w fun r w' => r = .returned (.float .f64 (bits .andNot .u64 (IntKind.u64.wrap ((x : Int) + 2251799813685248 / 2 ^ (e - 1023))) (4503599627370495 / 2 ^ (e - 1023))).toNat) ∧ w' = w := by
  have q1 := call11
  have q2 := call12
  go_enter Try.func9, Try.ntmps9
  go_wp2
  go_ret
  exact ⟨rfl, rfl⟩

theorem mod_nat (y : Nat) (h : y < 2 ^ 64) : (y : Int) % 18446744073709551616 = (y : Int) := by omega

/-- math.Round of a word below 2^52 in magnitude. -/
theorem round_any (x : Nat) (w : World) (hx : x < 2 ^ 64) (he : x / 2 ^ 52 % 2048 < 1075) :
    Calls Try.prog 9 #[.float .f64 x] w fun e w' => e = .returned (.float .f64 (roundW x)) ∧ w' = w := by
  have hE := expo x hx
  have hS := sign_bit x hx
  unfold roundW
  by_cases c1 : x / 2 ^ 52 % 2048 < 1022
  · rw [if_pos c1]
    refine (round_a x _ w c1 hE).mono ?_
    rintro e w' ⟨rfl, rfl⟩
    rw [hS]
    exact ⟨rfl, rfl⟩
  · rw [if_neg c1]
    by_cases c2 : x / 2 ^ 52 % 2048 = 1022
    · rw [if_pos c2]
      rw [c2] at hE
      refine (round_b x w hE).mono ?_
      rintro e w' ⟨rfl, rfl⟩
      rw [hS, show (4607182418800017408 : Int) = ((1023 * 2 ^ 52 : Nat) : Int) from rfl, u64_or_nat _ _ (by omega) (by omega), nat_join 63 _ _ (by omega) (by omega)]
      exact ⟨rfl, rfl⟩
    · rw [if_neg c2]
      generalize hEd : x / 2 ^ 52 % 2048 = e at *
      refine (round_c x e w (by omega) he hE).mono ?_
      rintro r w' ⟨rfl, rfl⟩
      have e1 : (2251799813685248 : Int) / 2 ^ (e - 1023) = ((2 ^ (1074 - e) : Nat) : Int) := by
        have := div_pow_sub 51 (e - 1023) (by omega)
        rw [show 51 - (e - 1023) = 1074 - e by omega] at this
        rw [← this]
        simp
      have e2 : (4503599627370495 : Int) / 2 ^ (e - 1023) = ((2 ^ (1075 - e) - 1 : Nat) : Int) := by
        have := mask_div (e - 1023) (by omega)
        rw [show 52 - (e - 1023) = 1075 - e by omega] at this
        rw [← this]
        simp
      have hk52 : 2 ^ (1075 - e) ≤ 2 ^ 52 := two_pow_le_of_le (by omega)
      have hk51 : 2 ^ (1074 - e) ≤ 2 ^ 51 := two_pow_le_of_le (by omega)
      have hsum : x + 2 ^ (1074 - e) < 2 ^ 64 := by omega
      rw [e1, e2, IntKind.wrap_u64, ← Int.natCast_add, mod_nat _ hsum, u64_andNot_nat _ _ hsum (by omega), low_clear _ _ hsum (by omega)]
      exact ⟨rfl, rfl⟩

/-- math.Sqrt where the root is a number. -/
theorem sqrt_any (x r : Nat) (w : World) (h : Ieee.double.sqrt x = some r) :
    Calls Try.prog 10 #[.float .f64 x] w fun e w' => e = .returned (.float .f64 r) ∧ w' = w := by
  have q1 := call13 x r h
  clear h
  go_enter Try.func10, Try.ntmps10
  go_wp2
  go_ret
  exact ⟨rfl, rfl⟩

set_option maxRecDepth 100000 in
/-- PatternCoefficient, its steps given. -/
theorem coef_any (f a x : Nat) (n : Int) (w : World) (h : Coef f a x n) :
    Calls Try.prog 6 #[.float .f64 f, .float .f64 a] w fun e w' => e = .returned (.int .i64 (kOf n)) ∧ w' = w := by
  obtain ⟨f2, r, e1, e2, e3, c1, c2, c3, e4⟩ := h
  have o1 : ∀ t w, (binOp .mul t (.float .f64 4611686018427387904) (.float .f64 f)).run Try.prog w = .ok (.float .f64 f2) w := fun t w => run_float_arith w .mul t .f64 _ _ _ e1
  have o3 : ∀ t w, (binOp .mul t (.float .f64 f2) (.float .f64 r)).run Try.prog w = .ok (.float .f64 x) w := fun t w => run_float_arith w .mul t .f64 _ _ _ e3
  have o4 : ∀ w, (convert 22 3 (.float .f64 (roundW x))).run Try.prog w = .ok (.int .i64 n) w := fun w => run_convert_float_int w 22 3 .f64 .i64 _ n (by rw [Try.underlying22]; rfl) Try.underlying3 e4
  have C1 : Hid (∀ w, Calls Try.prog 10 #[.float .f64 a] w fun e w' => e = .returned (.float .f64 r) ∧ w' = w) := fun w => sqrt_any a r w e2
  have C2 : Hid (∀ w, Calls Try.prog 9 #[.float .f64 x] w fun e w' => e = .returned (.float .f64 (roundW x)) ∧ w' = w) := fun w => round_any x w c2 c1
  clear e1 e2 e3 e4 c1 c2 c3
  have hcase : n < 1 ∨ (1 ≤ n ∧ n ≤ 7) ∨ 7 < n := by omega
  rcases hcase with h | ⟨h, h'⟩ | h
  all_goals
    go_enter Try.func6, Try.ntmps6
    go_wp2_with fail
    refine (C1.out _).mono ?_
    rintro e w' ⟨rfl, rfl⟩
    go_wp2_with fail
    refine (C2.out _).mono ?_
    rintro e w' ⟨rfl, rfl⟩
    go_wp2_with fail
    all_goals
      go_ret
      exact ⟨ret_int (by unfold kOf; omega), rfl⟩

end Go.Proofs.Qxb6618749a
