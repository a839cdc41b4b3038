/-
  A PROOF OF 'Rows.FnPatternCoefficientBlockSpansTheStimulusSideSaid'. The frame is the guide's template (proof-skeleton) at this function's number and types; the walk and the law are ours.
-/
import Derived.Test.Qxb6618749aCoefWalk
import Derived.Test.Qxb6618749aBlockLaw
namespace Go.Proofs.Qxb6618749a.fnPatternBlock
open Go.ChangeShapes Go.WideShapes Go.ChangeAt Go.RowKit
open Go.Proofs.Qxb6618749a.Fl

theorem own : ownKnob Try.prog.godebug = none := by kernel_rfl

/-- 'PatternPixel', its two steps given. -/
theorem pixel_any (f f16 p : Nat) (k : Int) (w : World) (h1 : floatBits .mul .f64 4625196817309499392 f = some f16) (h2 : floatBits .quo .f64 (floatOfInt .f64 k) f16 = some p) :
    Calls Try.prog 7 #[.float .f64 f, .int .i64 k] w fun e w' => e = .returned (.float .f64 p) ∧ w' = w := by
  have o1 : ∀ t w, (binOp .mul t (.float .f64 4625196817309499392) (.float .f64 f)).run Try.prog w = .ok (.float .f64 f16) w := fun t w => run_float_arith w .mul t .f64 _ _ _ h1
  have o2 : ∀ t w, (binOp .quo t (.float .f64 (floatOfInt .f64 k)) (.float .f64 f16)).run Try.prog w = .ok (.float .f64 p) w := fun t w => run_float_arith w .quo t .f64 _ _ _ h2
  clear h1 h2
  go_enter Try.func7, Try.ntmps7
  go_wp2
  go_ret
  exact ⟨rfl, rfl⟩

/-- The walk past the guards; k a letter. -/
theorem walk_in (f a : Nat) (k : Int) (w : World)
    (g1 : (FloatKind.f64.format.order f 0 == some .gt) = true)
    (g2 : (FloatKind.f64.format.order f 4681608360884174848 == some .lt || FloatKind.f64.format.order f 4681608360884174848 == some .eq) = true)
    (g3 : (FloatKind.f64.format.order a 0 == some .gt || FloatKind.f64.format.order a 0 == some .eq) = true)
    (g4 : (FloatKind.f64.format.order a 4696837146684686336 == some .lt || FloatKind.f64.format.order a 4696837146684686336 == some .eq) = true)
    (C0 : Hid (∀ w, Calls Try.prog 6 #[.float .f64 f, .float .f64 a] w fun e w' => e = .returned (.int .i64 k) ∧ w' = w))
    (hk1 : 1 ≤ k) (hk7 : k ≤ 7) (hs : Span f a k) :
    Calls Try.prog 4 #[.float .f64 f, .float .f64 a] w fun e w' => e = .returned (.bool true) ∧ Grown w w' := by
  obtain ⟨f16, p, pp, n, b, b8, lo, ll, lb, c, c8, hi, hh, hb, e1, e2, hgt0, e3, e4, s1, s2, s3, s4, s5, s6, s7, s8, s9, s10, hlo, hhi⟩ := hs
  have hgt : (FloatKind.f64.format.order p 0 == some .gt) = true := hgt0
  have C1 : Hid (∀ w, Calls Try.prog 7 #[.float .f64 f, .int .i64 k] w fun e w' => e = .returned (.float .f64 p) ∧ w' = w) := fun w => pixel_any f f16 p k w e1 e2
  have o3 : ∀ t w, (binOp .mul t (.float .f64 p) (.float .f64 p)).run Try.prog w = .ok (.float .f64 pp) w := fun t w => run_float_arith w .mul t .f64 _ _ _ e3
  have o4 : ∀ t w, (binOp .quo t (.float .f64 a) (.float .f64 pp)).run Try.prog w = .ok (.float .f64 n) w := fun t w => run_float_arith w .quo t .f64 _ _ _ e4
  have o5 : ∀ t w, (binOp .sub t (.float .f64 (floatOfInt .f64 k)) (.float .f64 4602678819172646912)).run Try.prog w = .ok (.float .f64 b) w := fun t w => run_float_arith w .sub t .f64 _ _ _ s1
  have o6 : ∀ t w, (binOp .mul t (.float .f64 4620693217682128896) (.float .f64 b)).run Try.prog w = .ok (.float .f64 b8) w := fun t w => run_float_arith w .mul t .f64 _ _ _ s2
  have o7 : ∀ t w, (binOp .quo t (.float .f64 b8) (.float .f64 (floatOfInt .f64 k))).run Try.prog w = .ok (.float .f64 lo) w := fun t w => run_float_arith w .quo t .f64 _ _ _ s3
  have o8 : ∀ t w, (binOp .mul t (.float .f64 lo) (.float .f64 lo)).run Try.prog w = .ok (.float .f64 ll) w := fun t w => run_float_arith w .mul t .f64 _ _ _ s4
  have o9 : ∀ t w, (binOp .mul t (.float .f64 ll) (.float .f64 4607182418791010209)).run Try.prog w = .ok (.float .f64 lb) w := fun t w => run_float_arith w .mul t .f64 _ _ _ s5
  have o10 : ∀ t w, (binOp .add t (.float .f64 (floatOfInt .f64 k)) (.float .f64 4602678819172646912)).run Try.prog w = .ok (.float .f64 c) w := fun t w => run_float_arith w .add t .f64 _ _ _ s6
  have o11 : ∀ t w, (binOp .mul t (.float .f64 4620693217682128896) (.float .f64 c)).run Try.prog w = .ok (.float .f64 c8) w := fun t w => run_float_arith w .mul t .f64 _ _ _ s7
  have o12 : ∀ t w, (binOp .quo t (.float .f64 c8) (.float .f64 (floatOfInt .f64 k))).run Try.prog w = .ok (.float .f64 hi) w := fun t w => run_float_arith w .quo t .f64 _ _ _ s8
  have o13 : ∀ t w, (binOp .mul t (.float .f64 hi) (.float .f64 hi)).run Try.prog w = .ok (.float .f64 hh) w := fun t w => run_float_arith w .mul t .f64 _ _ _ s9
  have o14 : ∀ t w, (binOp .mul t (.float .f64 hh) (.float .f64 4607182418804521008)).run Try.prog w = .ok (.float .f64 hb) w := fun t w => run_float_arith w .mul t .f64 _ _ _ s10
  clear e1 e2 e3 e4 s1 s2 s3 s4 s5 s6 s7 s8 s9 s10 hgt0
  by_cases h1 : 1 < k
  · have l1 : (FloatKind.f64.format.order n lb == some .gt || FloatKind.f64.format.order n lb == some .eq) = true := hlo h1
    by_cases h7 : k < 7
    · have l2 : (FloatKind.f64.format.order n hb == some .lt || FloatKind.f64.format.order n hb == some .eq) = true := hhi h7
      clear hlo hhi
      go_enter Try.func4, Try.ntmps4
      go_wp2_with fail
      refine (C0.out _).mono ?_
      rintro e w' ⟨rfl, rfl⟩
      go_wp2_with fail
      refine (C1.out _).mono ?_
      rintro e w' ⟨rfl, rfl⟩
      go_wp2_with fail
      go_ret
      exact ⟨rfl, Grown.refl _⟩
    · clear hlo hhi
      go_enter Try.func4, Try.ntmps4
      go_wp2_with fail
      refine (C0.out _).mono ?_
      rintro e w' ⟨rfl, rfl⟩
      go_wp2_with fail
      refine (C1.out _).mono ?_
      rintro e w' ⟨rfl, rfl⟩
      go_wp2_with fail
      go_ret
      exact ⟨rfl, Grown.refl _⟩
  · have l2 : (FloatKind.f64.format.order n hb == some .lt || FloatKind.f64.format.order n hb == some .eq) = true := hhi (by omega)
    clear hlo hhi
    go_enter Try.func4, Try.ntmps4
    go_wp2_with fail
    refine (C0.out _).mono ?_
    rintro e w' ⟨rfl, rfl⟩
    go_wp2_with fail
    refine (C1.out _).mono ?_
    rintro e w' ⟨rfl, rfl⟩
    go_wp2_with fail
    go_ret
    exact ⟨rfl, Grown.refl _⟩

theorem walk (f a : Nat) (w : World) : Calls Try.prog 4 #[.float .f64 f, .float .f64 a] w fun e w' => e = .returned (.bool true) ∧ Grown w w' := by
  by_cases g1 : (FloatKind.f64.format.order f 0 == some .gt) = true
  · by_cases g2 : (FloatKind.f64.format.order f 4681608360884174848 == some .lt || FloatKind.f64.format.order f 4681608360884174848 == some .eq) = true
    · by_cases g3 : (FloatKind.f64.format.order a 0 == some .gt || FloatKind.f64.format.order a 0 == some .eq) = true
      · by_cases g4 : (FloatKind.f64.format.order a 4696837146684686336 == some .lt || FloatKind.f64.format.order a 4696837146684686336 == some .eq) = true
        · obtain ⟨x, n, c0, hs⟩ := block_law f a g1 g2 g3 g4
          exact walk_in f a (kOf n) w g1 g2 g3 g4 (fun w => coef_any f a x n w c0) (kOf_ge n) (by unfold kOf; omega) hs
        · have g4' : (FloatKind.f64.format.order a 4696837146684686336 == some .lt || FloatKind.f64.format.order a 4696837146684686336 == some .eq) = false := by simpa using g4
          clear g4
          go_enter Try.func4, Try.ntmps4
          go_wp2
          go_ret
          exact ⟨rfl, Grown.refl _⟩
      · have g3' : (FloatKind.f64.format.order a 0 == some .gt || FloatKind.f64.format.order a 0 == some .eq) = false := by simpa using g3
        clear g3
        go_enter Try.func4, Try.ntmps4
        go_wp2
        go_ret
        exact ⟨rfl, Grown.refl _⟩
    · have g2' : (FloatKind.f64.format.order f 4681608360884174848 == some .lt || FloatKind.f64.format.order f 4681608360884174848 == some .eq) = false := by simpa using g2
      clear g2
      go_enter Try.func4, Try.ntmps4
      go_wp2
      go_ret
      exact ⟨rfl, Grown.refl _⟩
  · have g1' : (FloatKind.f64.format.order f 0 == some .gt) = false := by simpa using g1
    clear g1
    go_enter Try.func4, Try.ntmps4
    go_wp2
    go_ret
    exact ⟨rfl, Grown.refl _⟩

/-! ### THE ROW's STEP -/
set_option maxRecDepth 100000 in
theorem lifted (os : Os) (started : os.Started) (H : Type) (enc : TypeId × Value → H) :
    ReturnsInHanded {} Try.checked os 4 .any (Rows.fnPatternCoefficientBlockSpansTheStimulusSideSpec.pre6 enc Try.prog Try.f4 Rows.fnPatternCoefficientBlockSpansTheStimulusSideRow.domain false) (Rows.fnPatternCoefficientBlockSpansTheStimulusSideSpec.post enc Try.prog Try.f4 false true false false) := by
  refine returnsInHanded_of_change (C := Try.checked) own started (by kernel_rfl) Try.func4
    (ChangeSpec.witness6 (enc := enc) (C := Try.checked) false ⟨#[], #[.float .f64 0, .float .f64 0], []⟩ 8 (by kernel_rfl) (by kernel_rfl) (by kernel_rfl) (by kernel_rfl)) ?_
  intro W base args ds gs before hval0 hW hcnd _
  have hval : ∀ (j : Nat) t v, Try.f4.params[j]? = some t → args[j]? = some v → Value.okWide Try.prog W .any base t v := hval0
  have hW' := hW
  obtain ⟨p, q, hA0, hV, rfl, hfz, hnd⟩ := hW
  have hA : DataW.TrodAll enc Try.prog W 0 (fun _ => true) true Try.f4.params.toList args.toList ds p := hA0
  rw [Try.params4] at hA hval
  obtain ⟨v0, vs0, d0, ds0, p0, q0, hargs, rfl, rfl, h0, r0⟩ := trodAll_cons hA
  obtain ⟨v1, vs1, d1, ds1, p1, q1, rfl, rfl, rfl, h1, r1⟩ := trodAll_cons r0
  obtain ⟨rfl, rfl, rfl⟩ := trodAll_nil r1
  obtain rfl : args = #[v0, v1] := by cases args; simp_all
  obtain ⟨rfl, rfl⟩ := trodVars_none hV
  obtain ⟨a0, rfl, rfl, rfl, w0⟩ := open_float Try.underlying22 (hval 0 22 v0 rfl rfl) h0
  obtain ⟨a1, rfl, rfl, rfl, w1⟩ := open_float Try.underlying22 (hval 1 22 v1 rfl rfl) h1
  clear hA0 hval0
  simp only [List.append_nil] at hW'
  refine (walk a0 a1 W).mono fun e W' ⟨he, hg⟩ => ?_
  subst he
  exact ⟨_, rfl, post_of_same (pa := []) (pv := []) hW' (fun _ _ _ => (trodAll_cons_mk (shut_bool Try.underlying4 _) trodAll_mk0)) (fun sp _ => (trodAll_cons_mk (shut_float Try.underlying22 w0) (trodAll_cons_mk (shut_float Try.underlying22 w1) trodAll_mk0))) (fun _ _ => rfl) rfl
    (hg.frame _) hg.2.1 (ok_one (by kernel_rfl) rfl (okWide_bool_mk Try.underlying4 _))⟩

theorem over : Rows.fnPatternCoefficientBlockSpansTheStimulusSideRow.holds Try.pinned (OpenSpec.ofChange Rows.fnPatternCoefficientBlockSpansTheStimulusSideSpec) :=
  OpenClaim.holds_of_wide 4 Try.f4 rfl rfl rfl rfl rfl rfl rfl ⟨rfl, rfl, rfl, rfl, rfl⟩ rfl rfl rfl rfl rfl (by kernel_rfl) Try.func4 (by kernel_rfl)
    (of_decide_eq_true (by kernel_rfl)) (by unfold Func.isWrapper; first | (rw [if_pos (by decide +kernel)]; kernel_rfl) | (rw [if_neg (by decide +kernel)]; exact ⟨rfl, rfl⟩))
    (fun os started H enc _ => lifted os started H enc)

/-- ████ THE STATEMENT ████ -/
theorem proved : Rows.FnPatternCoefficientBlockSpansTheStimulusSideSaid :=
  over
#print axioms proved
end Go.Proofs.Qxb6618749a.fnPatternBlock
