/-
  A PROOF OF 'Rows.FnPatternPixelInvertsAndHalvesAsFrequencyDoublesSaid'. The frame is the guide's template (proof-skeleton) at this function's number and types; the walk and the law are ours.
-/
import Derived.Test.Qxb6618749aRows
import Derived.Test.Qxb6618749aPixel
import Derived.WalkKit
import Derived.ProofKit
import Derived.OpenShut
import Derived.WalkSpells
import Derived.WalkLawsBesides
import Derived.Laws.FloatArith
namespace Go.Proofs.Qxb6618749a.fnPatternPixel
open Go.ChangeShapes Go.WideShapes Go.ChangeAt Go.RowKit
open Go.Proofs.Qxb6618749a.Fl

theorem own : ownKnob Try.prog.godebug = none := by kernel_rfl

theorem ret_float {a b : Nat} (h : a = b) : Ending.returned (.float .f64 a) = .returned (.float .f64 b) := by rw [h]

/-- 'zzAbs'. -/
theorem abs_any (x : Nat) (w : World) : Calls Try.prog 8 #[.float .f64 x] w fun e w' => e = .returned (.float .f64 (absW x)) ∧ w' = w := by
  by_cases hc : (FloatKind.f64.format.order x 0 == some .lt) = true
  · have H : Hid (absW x = Op.negFloat .f64 x) := by
      show absW x = x ^^^ 2 ^ 63
      unfold absW
      exact if_pos hc
    have hneg : ∀ w, (Op.unary .neg (.float .f64 x)).run Try.prog w = .ok (.float .f64 (Op.negFloat .f64 x)) w := fun _ => rfl
    go_enter Try.func8, Try.ntmps8
    go_wp2
    go_ret
    exact ⟨ret_float H.out.symm, rfl⟩
  · have H : Hid (absW x = x) := by
      show absW x = x
      unfold absW
      exact if_neg hc
    have hc' : (FloatKind.f64.format.order x 0 == some .lt) = false := by simpa using hc
    clear hc
    go_enter Try.func8, Try.ntmps8
    go_wp2
    go_ret
    exact ⟨ret_float H.out.symm, rfl⟩

/-- 'PatternPixel', its two steps given. -/
theorem pixel_any (f f16 p : Nat) (k : Int) (w : World) (h1 : floatBits .mul .f64 4625196817309499392 f = some f16) (h2 : floatBits .quo .f64 (floatOfInt .f64 k) f16 = some p) :
    Calls Try.prog 7 #[.float .f64 f, .int .i64 k] w fun e w' => e = .returned (.float .f64 p) ∧ w' = w := by
  have o1 : ∀ t w, (binOp .mul t (.float .f64 4625196817309499392) (.float .f64 f)).run Try.prog w = .ok (.float .f64 f16) w := fun t w => run_float_arith w .mul t .f64 _ _ _ h1
  have o2 : ∀ t w, (binOp .quo t (.float .f64 (floatOfInt .f64 k)) (.float .f64 f16)).run Try.prog w = .ok (.float .f64 p) w := fun t w => run_float_arith w .quo t .f64 _ _ _ h2
  clear h1 h2
  go_enter Try.func7, Try.ntmps7
  go_wp2
  go_ret
  exact ⟨rfl, rfl⟩

/-- 'float64(k)': finite, zero or from a half to 2^64. -/
theorem int_is (k : Int) (h : k.natAbs ≤ 2 ^ 63) : ∃ K, Is (floatOfInt .f64 k) (decide (k < 0)) K ∧ (K = 0 ∨ (P2 1073 ≤ K ∧ K ≤ P2 1138)) := by
  have e : floatOfInt .f64 k = Ieee.double.nearest (decide (k < 0)) k.natAbs (((1074 : Nat) : Int) - (1074 + 0 : Nat)) := rfl
  rw [e]
  by_cases h0 : k.natAbs = 0
  · rw [h0]
    exact ⟨0, near_zero _ _, Or.inl rfl⟩
  · have hb := zv_bd2 k.natAbs 1074 0 h0
    have hA : k.natAbs * P2 1074 ≤ P2 (63 + 1074) := by
      refine mul_le_P2 ?_ (Nat.le_refl _)
      rw [P2_def]
      exact h
    have hA1 : P2 1074 ≤ k.natAbs * P2 1074 := Nat.le_mul_of_pos_left _ (by omega)
    refine ⟨_, near_fin2 _ _ _ _ h0 ?_, Or.inr ?_⟩
    · exact Nat.lt_of_le_of_lt hA (P2_lt (by omega))
    · rw [show P2 0 = 1 from by rw [P2_def], Nat.mul_one] at hb
      have e1 : P2 1074 = 2 * P2 1073 := by rw [← P2_1, ← P2_add]
      have e2 : P2 1138 = 2 * P2 (63 + 1074) := by rw [← P2_1, ← P2_add]
      have e3 : P2 52 ≤ P2 1074 := P2_le (by omega)
      rw [P2_def 52] at e3
      generalize k.natAbs * P2 1074 = A at *
      generalize zv k.natAbs 1074 0 = Z at *
      generalize P2 1074 = U0 at *
      omega

theorem int_lt (k : Int) : floatOfInt .f64 k < 2 ^ 64 := Ieee.double.nearest_lt _ _ _

/-- The law at every frequency that passes the guard. -/
theorem law (f : Nat) (k : Int) (hk : k.natAbs ≤ 2 ^ 63)
    (h1 : (Ieee.double.order f 1614679632300144556 == some .gt || Ieee.double.order f 1614679632300144556 == some .eq) = true)
    (h2 : (Ieee.double.order f 4741671816366391296 == some .lt || Ieee.double.order f 4741671816366391296 == some .eq) = true) : PixelOk f (floatOfInt .f64 k) := by
  obtain ⟨r, F, hf, l1, l2⟩ := between is_1e200 is_1e9 h1 h2
  have c1 : P2 409 ≤ 6894565328877484 * P2 357 := by
    have : P2 409 = P2 52 * P2 357 := by rw [← P2_add]
    rw [this, P2_def 52]
    exact Nat.mul_le_mul_right _ (by decide)
  have c2 : 8388608000000000 * P2 1051 ≤ P2 1104 := by
    have : P2 1104 = P2 53 * P2 1051 := by rw [← P2_add]
    rw [this, P2_def 53]
    exact Nat.mul_le_mul_right _ (by decide)
  have hp := P2_pos 409
  generalize 6894565328877484 * P2 357 = L at *
  generalize 8388608000000000 * P2 1051 = H at *
  have hr : r = false := by
    cases r
    · rfl
    · exfalso
      simp [sg] at l1
      omega
  subst hr
  simp [sg] at l1 l2
  obtain ⟨K, hK, hc⟩ := int_is k hk
  rcases hc with h0 | ⟨a, b⟩
  · subst h0
    exact pixel_zero hf (by omega) (by omega) hK (int_lt k)
  · exact pixel_pos hf (by omega) (by omega) hK a b (int_lt k)

/-! ### THE WALK -/
theorem walk (f : Nat) (k : Int) (w : World) (hk : k.natAbs ≤ 2 ^ 63) :
    Calls Try.prog 5 #[.float .f64 f, .int .i64 k] w fun e w' => e = .returned (.bool true) ∧ Grown w w' := by
  by_cases g1 : (FloatKind.f64.format.order f 1614679632300144556 == some .gt || FloatKind.f64.format.order f 1614679632300144556 == some .eq) = true
  · by_cases g2 : (FloatKind.f64.format.order f 4741671816366391296 == some .lt || FloatKind.f64.format.order f 4741671816366391296 == some .eq) = true
    · obtain ⟨f16, p, p16, r, t, m14, f2, f32, p2, ph, e1, e2, e3, e4, e5, e6, e7, e8, e9, e10, e11, e12⟩ := law f k hk g1 g2
      clear hk
      have o3 : ∀ t w, (binOp .mul t (.float .f64 p) (.float .f64 4625196817309499392)).run Try.prog w = .ok (.float .f64 p16) w := fun t w => run_float_arith w .mul t .f64 _ _ _ e3
      have o4 : ∀ t w, (binOp .mul t (.float .f64 p16) (.float .f64 f)).run Try.prog w = .ok (.float .f64 r) w := fun t w => run_float_arith w .mul t .f64 _ _ _ e4
      have o5 : ∀ tt w, (binOp .sub tt (.float .f64 r) (.float .f64 (floatOfInt .f64 k))).run Try.prog w = .ok (.float .f64 t) w := fun t w => run_float_arith w .sub t .f64 _ _ _ e5
      have o6 : ∀ t w, (binOp .mul t (.float .f64 4397347889687374747) (.float .f64 (absW (floatOfInt .f64 k)))).run Try.prog w = .ok (.float .f64 m14) w := fun t w => run_float_arith w .mul t .f64 _ _ _ e6
      have o8 : ∀ t w, (binOp .mul t (.float .f64 4611686018427387904) (.float .f64 f)).run Try.prog w = .ok (.float .f64 f2) w := fun t w => run_float_arith w .mul t .f64 _ _ _ e8
      have o11 : ∀ t w, (binOp .quo t (.float .f64 p) (.float .f64 4611686018427387904)).run Try.prog w = .ok (.float .f64 ph) w := fun t w => run_float_arith w .quo t .f64 _ _ _ e11
      have c1 := fun w => pixel_any f f16 p k w e1 e2
      have c2 := fun w => pixel_any f2 f32 p2 k w e9 e10
      have C1 : Hid _ := c1
      have C2 : Hid _ := c2
      have E7 : (FloatKind.f64.format.order (absW t) m14 == some .lt || FloatKind.f64.format.order (absW t) m14 == some .eq) = true := e7
      have E12 : (FloatKind.f64.format.order p2 ph == some .eq) = true := e12
      clear e1 e2 e3 e4 e5 e6 e7 e8 e9 e10 e11 e12 c1 c2
      go_enter Try.func5, Try.ntmps5
      go_wp2_with fail
      refine (C1.out _).mono ?_
      rintro e w' ⟨rfl, rfl⟩
      go_wp2_with fail
      refine (abs_any _ _).mono ?_
      rintro e w' ⟨rfl, rfl⟩
      go_wp2_with fail
      refine (abs_any _ _).mono ?_
      rintro e w' ⟨rfl, rfl⟩
      go_wp2_with fail
      refine (C2.out _).mono ?_
      rintro e w' ⟨rfl, rfl⟩
      go_wp2_with fail
      go_ret
      exact ⟨rfl, Grown.refl _⟩
    · have g2' : (FloatKind.f64.format.order f 4741671816366391296 == some .lt || FloatKind.f64.format.order f 4741671816366391296 == some .eq) = false := by simpa using g2
      clear g2
      go_enter Try.func5, Try.ntmps5
      go_wp2
      go_ret
      exact ⟨rfl, Grown.refl _⟩
  · have g1' : (FloatKind.f64.format.order f 1614679632300144556 == some .gt || FloatKind.f64.format.order f 1614679632300144556 == some .eq) = false := by simpa using g1
    clear g1
    go_enter Try.func5, Try.ntmps5
    go_wp2
    go_ret
    exact ⟨rfl, Grown.refl _⟩

/-! ### THE ROW's STEP -/
set_option maxRecDepth 100000 in
theorem lifted (os : Os) (started : os.Started) (H : Type) (enc : TypeId × Value → H) :
    ReturnsInHanded {} Try.checked os 5 .any (Rows.fnPatternPixelInvertsAndHalvesAsFrequencyDoublesSpec.pre6 enc Try.prog Try.f5 Rows.fnPatternPixelInvertsAndHalvesAsFrequencyDoublesRow.domain false) (Rows.fnPatternPixelInvertsAndHalvesAsFrequencyDoublesSpec.post enc Try.prog Try.f5 false true false false) := by
  refine returnsInHanded_of_change (C := Try.checked) own started (by kernel_rfl) Try.func5
    (ChangeSpec.witness6 (enc := enc) (C := Try.checked) false ⟨#[], #[.float .f64 0, .int .i64 0], []⟩ 8 (by kernel_rfl) (by kernel_rfl) (by kernel_rfl) (by kernel_rfl)) ?_
  intro W base args ds gs before hval0 hW hcnd _
  have hval : ∀ (j : Nat) t v, Try.f5.params[j]? = some t → args[j]? = some v → Value.okWide Try.prog W .any base t v := hval0
  have hW' := hW
  obtain ⟨p, q, hA0, hV, rfl, hfz, hnd⟩ := hW
  have hA : DataW.TrodAll enc Try.prog W 0 (fun _ => true) true Try.f5.params.toList args.toList ds p := hA0
  rw [Try.params5] at hA hval
  obtain ⟨v0, vs0, d0, ds0, p0, q0, hargs, rfl, rfl, h0, r0⟩ := trodAll_cons hA
  obtain ⟨v1, vs1, d1, ds1, p1, q1, rfl, rfl, rfl, h1, r1⟩ := trodAll_cons r0
  obtain ⟨rfl, rfl, rfl⟩ := trodAll_nil r1
  obtain rfl : args = #[v0, v1] := by cases args; simp_all
  obtain ⟨rfl, rfl⟩ := trodVars_none hV
  obtain ⟨a0, rfl, rfl, rfl, w0⟩ := open_float Try.underlying22 (hval 0 22 v0 rfl rfl) h0
  obtain ⟨a1, rfl, rfl, rfl, w1⟩ := open_int Try.underlying3 (hval 1 3 v1 rfl rfl) h1
  clear hA0 hval0
  simp only [List.append_nil] at hW'
  have hb := bounds_i64 w1
  refine (walk a0 a1 W (by omega)).mono fun e W' ⟨he, hg⟩ => ?_
  subst he
  exact ⟨_, rfl, post_of_same (pa := []) (pv := []) hW' (fun _ _ _ => (trodAll_cons_mk (shut_bool Try.underlying4 _) trodAll_mk0)) (fun sp _ => (trodAll_cons_mk (shut_float Try.underlying22 w0) (trodAll_cons_mk (shut_int Try.underlying3 w1) trodAll_mk0))) (fun _ _ => rfl) rfl
    (hg.frame _) hg.2.1 (ok_one (by kernel_rfl) rfl (okWide_bool_mk Try.underlying4 _))⟩

theorem over : Rows.fnPatternPixelInvertsAndHalvesAsFrequencyDoublesRow.holds Try.pinned (OpenSpec.ofChange Rows.fnPatternPixelInvertsAndHalvesAsFrequencyDoublesSpec) :=
  OpenClaim.holds_of_wide 5 Try.f5 rfl rfl rfl rfl rfl rfl rfl ⟨rfl, rfl, rfl, rfl, rfl⟩ rfl rfl rfl rfl rfl (by kernel_rfl) Try.func5 (by kernel_rfl)
    (of_decide_eq_true (by kernel_rfl)) (by unfold Func.isWrapper; first | (rw [if_pos (by decide +kernel)]; kernel_rfl) | (rw [if_neg (by decide +kernel)]; exact ⟨rfl, rfl⟩))
    (fun os started H enc _ => lifted os started H enc)

/-- ████ THE STATEMENT ████ -/
theorem proved : Rows.FnPatternPixelInvertsAndHalvesAsFrequencyDoublesSaid :=
  over
#print axioms proved
end Go.Proofs.Qxb6618749a.fnPatternPixel
